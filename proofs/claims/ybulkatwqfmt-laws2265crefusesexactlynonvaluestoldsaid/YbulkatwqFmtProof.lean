/-
  The proof of Rows.LawS2265CRefusesExactlyNonValuesToldSaid: the row's step and the card, over the walks.
-/
import Derived.Test.YbulkatwqFmtLaw
import Derived.Test.YbulkatwqFmtCards
import Derived.Test.YbulkatwqFmtTie
import Derived.ChangeSlices
import Derived.ChangeSame
import Derived.ChangeOld
import Derived.JoinedOf
import Derived.Carry
import Derived.OpenShut
import Derived.Stop.JoinedAt
import Derived.Stop.LaidErr
import Derived.Lib.LaidTab
import Derived.Lib.LaidIn
import Derived.Deep.DeepWitnessRef
import Derived.SizedLaws
import Derived.SevenTiedAt
namespace Go.Proofs.YbulkatwqFmt.tree
open Go.ChangeShapes Go.WideShapes Go.ChangeAt Go.RowKit Go.Kit
open Go.Extern.Stop Go.Stop Go.Extern

theorem own : ownKnob Ybaf.prog.godebug = none := by kernel_rfl
theorem laidOut : laidOutB Ybaf.pinned.checked.prog = true := by kernel_rfl

/-- What the walk is told of a slice of bytes that came in. -/
def IsRow (k : IntKind) (w : World) (a : Option Addr) (len cap : Nat) (zs : List Int) : Prop :=
  (a = none ∧ len = 0 ∧ cap = 0 ∧ zs = []) ∨
  ∃ x, a = some x ∧ len ≤ cap ∧ cap ≤ maxLen ∧ zs.length = cap ∧ (∀ i, i < zs.length → w.cell? (x.add i) = some (.int k (zs.getD i 0))) ∧ ∀ n ∈ zs, (Lit.int k n).wf = true

theorem IsRow.kinds {w : World} {a : Option Addr} {len cap : Nat} {zs : List Int} (h : IsRow .u8 w a len cap zs) (hl : len ≤ 1024) : Kinds w a len := by
  refine ⟨hl, ?_⟩
  by_cases h0 : len = 0
  · exact .inl h0
  rcases h with ⟨_, h, _⟩ | ⟨x, rfl, h1, _, h3, h4, h5⟩
  · exact absurd h h0
  · right
    obtain ⟨b, o, sp⟩ := x
    have c0 := h4 0 (by omega)
    have hsp : sp = none := by
      cases sp with
      | none => rfl
      | some q =>
        exfalso
        simp [World.cell?, Addr.add] at c0
        split at c0 <;> simp_all
    subst hsp
    refine ⟨b, o, rfl, World.block_lt_of_cell? w _ c0, fun j hj => ?_⟩
    have hw : (Lit.int .u8 (zs.getD j 0)).wf = true := by
      rw [List.getD_eq_getElem?_getD, List.getElem?_eq_getElem (by omega)]
      exact h5 _ (List.getElem_mem _)
    have bv := bounds_u8 hw
    refine ⟨(zs.getD j 0).toNat, by omega, ?_⟩
    have := h4 j (by omega)
    rw [Addr.add_lit] at this
    rw [Int.toNat_of_nonneg bv.1]
    exact this

theorem walk (F : Interp) (a : Option Addr) (n c : Nat) (z : List Int) (a1 : Option Addr) (n1 c1 : Nat) (z1 : List Int) (w : World) (hF : F.answers w.tape) (ht : Tab w) (w0 : IsRow .u8 w a n c z) (w1 : IsRow .u8 w a1 n1 c1 z1) :
    Calls Ybaf.prog 3 #[.slice a n c, .slice a1 n1 c1] w fun e w' => e = .returned (.bool true) ∧ Below w.heap.size w w' := by
  by_cases h : n ≤ 1024
  · by_cases h1 : n1 ≤ 1024
    · exact walk_mid F a n c a1 n1 c1 w hF ht (w0.kinds h) (w1.kinds h1)
    · exact walk_short a n c a1 n1 c1 w (.inr h1)
  · exact walk_short a n c a1 n1 c1 w (.inl h)

/-! ### a start in which the three tables lie as the program's text lays them -/
def numsOf : DataW Unit → List Int
  | .agg xs => xs.map fun
    | .lit (.int _ n) => n
    | _ => 0
  | _ => []
def putCells (h : Array Obj) (g : Nat) (cs : Array Value) : Array Obj := h.modify g fun
  | .cells _ t frozen => .cells cs t frozen
  | o => o
def laidOn (w : World) : World :=
  { w with heap := putCells (putCells (putCells w.heap 0 ((numsOf Rows.laid_internal_strconv_uint64pow10).map (Value.int .u64)).toArray) 2 ((numsOf Rows.laid_math_bits_deBruijn32tab).map (Value.int .u8)).toArray) 3 ((numsOf Rows.laid_math_bits_deBruijn64tab).map (Value.int .u8)).toArray }

set_option maxRecDepth 1000000 in
theorem laid_met (os : Os) : laidMet Ybaf.prog Rows.lawS2265CRefusesExactlyNonValuesRow.laid ((laidOn (World.holding Ybaf.prog os ⟨#[], #[], []⟩)).forCall (fun _ _ => 0) ⟨#[], #[.slice none 0 0, .slice none 0 0], []⟩).memory :=
  (LaidIn.of_run [2, 3, 0] 10 (by kernel_rfl) (by kernel_rfl) (by kernel_rfl) (by kernel_rfl)).met

theorem pow_eq : (Rows.laid_internal_strconv_uint64pow10 : DataW Unit) = Lib.tabData .u64 Lib.pow10Tab := by kernel_rfl

theorem tab_of (W : World) (h : laidMet Ybaf.prog Rows.lawS2265CRefusesExactlyNonValuesRow.laid W) : Tab W := by
  have h2 := h.tail.tail
  rw [pow_eq] at h2
  exact Lib.tabIs_of_head (g := 0) (t := 77) (n := 20) (by kernel_rfl) (by kernel_rfl) Ybaf.underlying77 Ybaf.underlying67 (by kernel_rfl) (by kernel_rfl) h2

set_option maxRecDepth 100000 in
theorem lifted (os : Os) (started : os.Started) (H : Type) (enc : TypeId × Value → H) :
    ReturnsInTold none {} Ybaf.checked os 3 .any Input.okWide ((OpenSpec.ofChange Rows.lawS2265CRefusesExactlyNonValuesSpec).preRow enc Ybaf.prog Ybaf.f3 [] false Rows.lawS2265CRefusesExactlyNonValuesRow.laid) (fun F => ((OpenSpec.ofChange Rows.lawS2265CRefusesExactlyNonValuesSpec).at F).post enc Ybaf.prog Ybaf.f3 false true false false) (aloneAtReturn Ybaf.prog) nothingAlways := by
  refine returnsInTold_of_row (C := Ybaf.checked) (s := OpenSpec.ofChange Rows.lawS2265CRefusesExactlyNonValuesSpec) (by kernel_rfl) own started (by kernel_rfl) Ybaf.func3
    (OpenSpec.witness_stopped_atRef (enc := enc) (C := Ybaf.checked) false (laidOn (World.holding Ybaf.prog os ⟨#[], #[], []⟩)) #[.slice none 0 0, .slice none 0 0] rfl (by kernel_rfl) (by kernel_rfl) (by kernel_rfl)
      (OpenSpec.preRow_of_B rfl 8 (by kernel_rfl) (by kernel_rfl) (laid_met os))) ?_
  intro F W base args ds gs before _ hF hval0 hW _ _ hsz hL _
  have hval : ∀ (j : Nat) t v, Ybaf.f3.params[j]? = some t → args[j]? = some v → Value.okWide Ybaf.prog W .any base t v := hval0
  have hW' := hW
  obtain ⟨p, q, hA0, hV, rfl, _, _⟩ := hW
  have hA : DataW.TrodAll enc Ybaf.prog W 0 (fun _ => true) true Ybaf.f3.params.toList args.toList ds p := hA0
  rw [Ybaf.params3] at hA hval
  obtain ⟨v0, vs0, d0, ds0, p0, q0, hargs, rfl, rfl, h0, r0⟩ := trodAll_cons hA
  obtain ⟨v1, vs1, d1, ds1, p1, q1, rfl, rfl, rfl, h1, r1⟩ := trodAll_cons r0
  obtain ⟨rfl, rfl, rfl⟩ := trodAll_nil r1
  obtain rfl : args = #[v0, v1] := by cases args; simp_all
  obtain ⟨rfl, rfl⟩ := trodVars_none hV
  obtain ⟨a0, len0, cap0, rfl⟩ := okWide_slice Ybaf.underlying22 (hval 0 22 v0 rfl rfl)
  obtain ⟨a1, len1, cap1, rfl⟩ := okWide_slice Ybaf.underlying22 (hval 1 22 v1 rfl rfl)
  have k0 := h0
  have k1 := h1
  have lt0 : ∀ x ∈ p0, x.block < W.heap.size := by obtain ⟨m, hm⟩ := k0; exact DataW.trod_lt m _ _ _ hm
  have lt1 : ∀ x ∈ p1, x.block < W.heap.size := by obtain ⟨m, hm⟩ := k1; exact DataW.trod_lt m _ _ _ hm
  obtain ⟨z0, w0⟩ : ∃ zs, IsRow .u8 W a0 len0 cap0 zs := by
    obtain ⟨fuel, hf⟩ := h0
    rcases open_ints Ybaf.underlying22 Ybaf.underlying5 (by kernel_rfl) hf with ⟨hcs, _⟩ | ⟨x, l, c, zs, hcs, _, hl, hm, hz, _, hcell, hwz⟩
    · simp [Value.cells] at hcs
      obtain ⟨rfl, rfl, rfl⟩ := hcs
      exact ⟨[], .inl ⟨rfl, rfl, rfl, rfl⟩⟩
    · simp [Value.cells] at hcs
      obtain ⟨rfl, rfl, rfl⟩ := hcs
      exact ⟨zs, .inr ⟨_, rfl, hl, hm, by simpa using hz, hcell, hwz⟩⟩
  obtain ⟨z1, w1⟩ : ∃ zs, IsRow .u8 W a1 len1 cap1 zs := by
    obtain ⟨fuel, hf⟩ := h1
    rcases open_ints Ybaf.underlying22 Ybaf.underlying5 (by kernel_rfl) hf with ⟨hcs, _⟩ | ⟨x, l, c, zs, hcs, _, hl, hm, hz, _, hcell, hwz⟩
    · simp [Value.cells] at hcs
      obtain ⟨rfl, rfl, rfl⟩ := hcs
      exact ⟨[], .inl ⟨rfl, rfl, rfl, rfl⟩⟩
    · simp [Value.cells] at hcs
      obtain ⟨rfl, rfl, rfl⟩ := hcs
      exact ⟨zs, .inr ⟨_, rfl, hl, hm, by simpa using hz, hcell, hwz⟩⟩
  clear hA0 hval0
  refine (walk F.told a0 len0 cap0 z0 a1 len1 cap1 z1 W hF (tab_of W hL) w0 w1).mono fun e W' ⟨he, bel⟩ => ?_
  subst he
  exact ⟨_, rfl, _, _, _, [], _, [], hW', trodAll_mk1 (shut_bool Ybaf.underlying4 _), (trodAll_cons_mk (Below.trod laidOut (by kernel_rfl) (of_decide_eq_true (by kernel_rfl)) k0 bel lt0) (trodAll_cons_mk (Below.trod laidOut (by kernel_rfl) (of_decide_eq_true (by kernel_rfl)) k1 bel lt1) trodAll_mk0)), rfl, bel.frame _, fun h => by cases h⟩

theorem stops : Rows.lawS2265CRefusesExactlyNonValuesRow.stops = Ybaf.pinned.checked.prog.stops := by kernel_rfl
theorem stopKnobs : Ybaf.pinned.checked.prog.stopKnobs = [] := by kernel_rfl
theorem quiet (os : Os) : Stop.quiet Ybaf.pinned.checked.prog os := by
  intro k hk
  rw [stopKnobs] at hk
  cases hk

theorem over : Claim7.holds Ybaf.pinned (.plain (OpenSpec.ofChange Rows.lawS2265CRefusesExactlyNonValuesSpec)) (Claim7.toldTiedRowAt .later Rows.lawS2265CRefusesExactlyNonValuesRow (true, "071e64669ccf689b9c14fa638ccd038c7f157517e6014845f182e6741973f7ad") true false [.data, .data, .data] true) :=
  Claim7.holds_of_told_tied_any_at .later 3 Ybaf.f3 _ _ [] _ _ _ _ _ (by kernel_rfl) rfl rfl rfl laidOut (by kernel_rfl) rfl ⟨rfl, rfl, rfl, rfl, rfl, rfl, rfl⟩ rfl rfl (by kernel_rfl) (by kernel_rfl) Ybaf.func3 (by kernel_rfl)
    (of_decide_eq_true (by kernel_rfl)) (by unfold Func.isWrapper; first | (rw [if_pos (by decide +kernel)]; kernel_rfl) | (rw [if_neg (by decide +kernel)]; exact ⟨rfl, rfl⟩)) stops rfl stopKnobs.symm (by kernel_rfl)
    (by kernel_rfl) (by kernel_rfl) (by kernel_rfl) (by kernel_rfl) (by kernel_rfl) (by kernel_rfl) (by kernel_rfl) (by kernel_rfl) (by kernel_rfl) rfl (by kernel_rfl) rfl rfl
    rfl rfl
    rfl (by kernel_rfl) (by kernel_rfl) (by kernel_rfl) (by decide) (by kernel_rfl) lawS2265CRefusesExactlyNonValues_row_tie
    (OpenClaim.moreEntering_of (by kernel_rfl) (by kernel_rfl) (by kernel_rfl) (by kernel_rfl) (by kernel_rfl) (by kernel_rfl) (by kernel_rfl) (by kernel_rfl) (by kernel_rfl) (by kernel_rfl))
    ⟨_, WideRow.started_initial, quiet _⟩
    (fun os started _ H enc _ => lifted os started H enc)

theorem proved : Rows.LawS2265CRefusesExactlyNonValuesToldSaid := over
#print axioms proved
end Go.Proofs.YbulkatwqFmt.tree
