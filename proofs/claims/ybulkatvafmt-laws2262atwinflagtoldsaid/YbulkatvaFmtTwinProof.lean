/-
  The proof of Rows.LawS2262ATwinFlagToldSaid: the row's step and the card, over the walks.
-/
import Derived.Test.YbulkatvaFmtTwinLaw
import Derived.Test.YbulkatvaFmtCards
import Derived.ChangeSlices
import Derived.ChangeSame
import Derived.ChangeOld
import Derived.JoinedOf
import Derived.Carry
import Derived.OpenShut
import Derived.Stop.JoinedAt
import Derived.SizedLaws
import Derived.SevenToldRow
namespace Go.Proofs.YbulkatvaFmt.twin
open Go.ChangeShapes Go.WideShapes Go.ChangeAt Go.RowKit Go.Kit
open Go.Extern.Stop Go.Stop Go.Extern

theorem own : ownKnob Ybaf.prog.godebug = none := by kernel_rfl
theorem laidOut : laidOutB Ybaf.pinned.checked.prog = true := by kernel_rfl

set_option maxHeartbeats 1000000 in
set_option maxRecDepth 100000 in
theorem walk_short (a0 : Option Addr) (n c0 : Nat) (a1 : Option Addr) (l1 c1 : Nat) (a2 a3 : Int) (w : World) (h : n = 0 ∨ 1024 < n) :
    Calls Ybaf.prog 3 #[.slice a0 n c0, .slice a1 l1 c1, .int .u8 a2, .int .u64 a3] w fun e w' => e = .returned (.bool true) ∧ Below w.heap.size w w' := by
  rcases h with rfl | h
  · go_enter Ybaf.func3, Ybaf.ntmps3
    go_wp2
    go_ret
    exact ⟨rfl, Below.refl _ _⟩
  · have h0 : ((n : Int) == 0) = false := by simp; omega
    have h1 : (1024 : Int) < (n : Int) := by omega
    go_enter Ybaf.func3, Ybaf.ntmps3
    go_wp2
    go_ret
    exact ⟨rfl, Below.refl _ _⟩

/-- What the walk is told of a slice of integers that came in. -/
def IsRow (k : IntKind) (w : World) (a : Option Addr) (len cap : Nat) (zs : List Int) : Prop :=
  (a = none ∧ len = 0 ∧ cap = 0 ∧ zs = []) ∨
  ∃ x, a = some x ∧ len ≤ cap ∧ cap ≤ maxLen ∧ zs.length = cap ∧ (∀ i, i < zs.length → w.cell? (x.add i) = some (.int k (zs.getD i 0))) ∧ ∀ n ∈ zs, (Lit.int k n).wf = true

theorem IsRow.at {k : IntKind} {w : World} {a : Option Addr} {len cap : Nat} {zs : List Int} (h : IsRow k w a len cap zs) (hl : len ≠ 0) :
    ∃ b o, a = some ⟨b, o, none⟩ ∧ b < w.heap.size ∧ ∀ j, j < len → ∃ v : Int, w.cell? ⟨b, o + j, none⟩ = some (.int k v) ∧ (Lit.int k v).wf = true := by
  rcases h with ⟨_, h, _⟩ | ⟨x, rfl, h1, _, h3, h4, h5⟩
  · exact absurd h hl
  · obtain ⟨b, o, sp⟩ := x
    have c0 := h4 0 (by omega)
    have hsp : sp = none := by
      cases sp with
      | none => rfl
      | some q =>
        exfalso
        simp [World.cell?, Addr.add] at c0
        split at c0 <;> simp_all
    subst hsp
    refine ⟨b, o, rfl, World.block_lt_of_cell? w _ c0, fun j hj => ⟨zs.getD j 0, ?_, ?_⟩⟩
    · have := h4 j (by omega)
      rw [Addr.add_lit] at this
      exact this
    · rw [List.getD_eq_getElem?_getD, List.getElem?_eq_getElem (by omega)]
      exact h5 _ (List.getElem_mem _)

theorem walk (F : Interp) (a0 : Option Addr) (n c0 : Nat) (z0 : List Int) (a1 : Option Addr) (l1 c1 : Nat) (z1 : List Int) (a2 a3 : Int) (w : World) (hF : F.answers w.tape) (w0 : IsRow .u8 w a0 n c0 z0) (w1 : IsRow .i64 w a1 l1 c1 z1) (w2 : (Lit.int .u8 a2).wf = true) (w3 : (Lit.int .u64 a3).wf = true) :
    Calls Ybaf.prog 3 #[.slice a0 n c0, .slice a1 l1 c1, .int .u8 a2, .int .u64 a3] w fun e w' => e = .returned (.bool true) ∧ Below w.heap.size w w' := by
  by_cases h : n = 0 ∨ 1024 < n
  · exact walk_short a0 n c0 a1 l1 c1 a2 a3 w h
  · have hn0 : n ≠ 0 := fun e => h (.inl e)
    have hn : n ≤ 1024 := by omega
    obtain ⟨b0, o0, rfl, hb0, hp⟩ := w0.at hn0
    have b2 := bounds_u8 w2
    have b3 := bounds_u64 w3
    have q0 : 0 ≤ a3 % (n : Int) := Int.emod_nonneg _ (by omega)
    have q1 : a3 % (n : Int) < (n : Int) := Int.emod_lt_of_pos _ (by omega)
    refine walk_mid F b0 o0 n c0 a1 l1 c1 a2 a3 (a2 % 4).toNat (a3 % (n : Int)).toNat w hF hn0 hn b2.1 (by omega) b3.1 (by omega) (by omega) (hide (by omega)) (by omega) (fun k hk => ?_) hb0 (fun k hk => ?_)
    · obtain ⟨v, hv, hw⟩ := hp k hk
      have bv := bounds_u8 hw
      exact ⟨v.toNat, by omega, by rw [Int.toNat_of_nonneg bv.1]; exact hv⟩
    · obtain ⟨b1, o1, e, hb1, ht⟩ := w1.at (by omega)
      obtain ⟨v, hv, _⟩ := ht k hk
      exact ⟨b1, o1, e, hb1, v, hv⟩

set_option maxRecDepth 100000 in
theorem lifted (os : Os) (started : os.Started) (H : Type) (enc : TypeId × Value → H) :
    ReturnsInTold none {} Ybaf.checked os 3 .any Input.okWide ((OpenSpec.ofChange Rows.lawS2262ATwinFlagSpec).preRow enc Ybaf.prog Ybaf.f3 [] false []) (fun F => ((OpenSpec.ofChange Rows.lawS2262ATwinFlagSpec).at F).post enc Ybaf.prog Ybaf.f3 false true false false) (aloneAtReturn Ybaf.prog) nothingAlways := by
  refine returnsInTold_of_row (C := Ybaf.checked) (s := OpenSpec.ofChange Rows.lawS2262ATwinFlagSpec) (by kernel_rfl) own started (by kernel_rfl) Ybaf.func3
    (OpenSpec.witness_stopped (enc := enc) (C := Ybaf.checked) false ⟨#[], #[.slice none 0 0, .slice none 0 0, .int .u8 0, .int .u64 0], []⟩ 8 (by kernel_rfl) (by kernel_rfl) (by kernel_rfl) (by kernel_rfl)) ?_
  intro F W base args ds gs before _ hF hval0 hW _ _ hsz _ _
  have hval : ∀ (j : Nat) t v, Ybaf.f3.params[j]? = some t → args[j]? = some v → Value.okWide Ybaf.prog W .any base t v := hval0
  have hW' := hW
  obtain ⟨p, q, hA0, hV, rfl, _, _⟩ := hW
  have hA : DataW.TrodAll enc Ybaf.prog W 0 (fun _ => true) true Ybaf.f3.params.toList args.toList ds p := hA0
  rw [Ybaf.params3] at hA hval
  obtain ⟨v0, vs0, d0, ds0, p0, q0, hargs, rfl, rfl, h0, r0⟩ := trodAll_cons hA
  obtain ⟨v1, vs1, d1, ds1, p1, q1, rfl, rfl, rfl, h1, r1⟩ := trodAll_cons r0
  obtain ⟨v2, vs2, d2, ds2, p2, q2, rfl, rfl, rfl, h2, r2⟩ := trodAll_cons r1
  obtain ⟨v3, vs3, d3, ds3, p3, q3, rfl, rfl, rfl, h3, r3⟩ := trodAll_cons r2
  obtain ⟨rfl, rfl, rfl⟩ := trodAll_nil r3
  obtain rfl : args = #[v0, v1, v2, v3] := by cases args; simp_all
  obtain ⟨rfl, rfl⟩ := trodVars_none hV
  obtain ⟨a0, len0, cap0, rfl⟩ := okWide_slice Ybaf.underlying22 (hval 0 22 v0 rfl rfl)
  obtain ⟨a1, len1, cap1, rfl⟩ := okWide_slice Ybaf.underlying23 (hval 1 23 v1 rfl rfl)
  have k0 := h0
  have k1 := h1
  have lt0 : ∀ x ∈ p0, x.block < W.heap.size := by obtain ⟨m, hm⟩ := k0; exact DataW.trod_lt m _ _ _ hm
  have lt1 : ∀ x ∈ p1, x.block < W.heap.size := by obtain ⟨m, hm⟩ := k1; exact DataW.trod_lt m _ _ _ hm
  obtain ⟨z0, w0⟩ : ∃ zs, IsRow .u8 W a0 len0 cap0 zs := by
    obtain ⟨fuel, hf⟩ := h0
    rcases open_ints Ybaf.underlying22 Ybaf.underlying5 (by kernel_rfl) hf with ⟨hcs, _⟩ | ⟨x, l, c, zs, hcs, _, hl, hm, hz, _, hcell, hwz⟩
    · simp [Value.cells] at hcs
      obtain ⟨rfl, rfl, rfl⟩ := hcs
      exact ⟨[], .inl ⟨rfl, rfl, rfl, rfl⟩⟩
    · simp [Value.cells] at hcs
      obtain ⟨rfl, rfl, rfl⟩ := hcs
      exact ⟨zs, .inr ⟨_, rfl, hl, hm, by simpa using hz, hcell, hwz⟩⟩
  obtain ⟨z1, w1⟩ : ∃ zs, IsRow .i64 W a1 len1 cap1 zs := by
    obtain ⟨fuel, hf⟩ := h1
    rcases open_ints Ybaf.underlying23 Ybaf.underlying3 (by kernel_rfl) hf with ⟨hcs, _⟩ | ⟨x, l, c, zs, hcs, _, hl, hm, hz, _, hcell, hwz⟩
    · simp [Value.cells] at hcs
      obtain ⟨rfl, rfl, rfl⟩ := hcs
      exact ⟨[], .inl ⟨rfl, rfl, rfl, rfl⟩⟩
    · simp [Value.cells] at hcs
      obtain ⟨rfl, rfl, rfl⟩ := hcs
      exact ⟨zs, .inr ⟨_, rfl, hl, hm, by simpa using hz, hcell, hwz⟩⟩
  obtain ⟨a2, rfl, rfl, rfl, w2⟩ := open_int Ybaf.underlying5 (hval 2 5 v2 rfl rfl) h2
  obtain ⟨a3, rfl, rfl, rfl, w3⟩ := open_int Ybaf.underlying24 (hval 3 24 v3 rfl rfl) h3
  clear hA0 hval0
  refine (walk F.told a0 len0 cap0 z0 a1 len1 cap1 z1 a2 a3 W hF w0 w1 w2 w3).mono fun e W' ⟨he, bel⟩ => ?_
  subst he
  exact ⟨_, rfl, _, _, _, [], _, [], hW', trodAll_mk1 (shut_bool Ybaf.underlying4 _), (trodAll_cons_mk (Below.trod laidOut (by kernel_rfl) (of_decide_eq_true (by kernel_rfl)) k0 bel lt0) (trodAll_cons_mk (Below.trod laidOut (by kernel_rfl) (of_decide_eq_true (by kernel_rfl)) k1 bel lt1) (trodAll_cons_mk (shut_int Ybaf.underlying5 w2) (trodAll_cons_mk (shut_int Ybaf.underlying24 w3) trodAll_mk0)))), rfl, bel.frame _, fun h => by cases h⟩

theorem stops : Rows.lawS2262ATwinFlagRow.stops = Ybaf.pinned.checked.prog.stops := by kernel_rfl
theorem stopKnobs : Ybaf.pinned.checked.prog.stopKnobs = [] := by kernel_rfl
theorem quiet (os : Os) : Stop.quiet Ybaf.pinned.checked.prog os := by
  intro k hk
  rw [stopKnobs] at hk
  cases hk

theorem over : Claim7.holds Ybaf.pinned (.plain (OpenSpec.ofChange Rows.lawS2262ATwinFlagSpec)) (Claim7.toldRow Rows.lawS2262ATwinFlagRow (true, "5a03ef79a38091c887d2b254d7b69251a555aeed17097ef1d7fe75ad54b5a584") true false) :=
  Claim7.holds_of_told_any 3 Ybaf.f3 "fmt.Sprintf" _ [] _ _ _ (by kernel_rfl) rfl rfl rfl laidOut (by kernel_rfl) rfl ⟨rfl, rfl, rfl, rfl, rfl, rfl, rfl⟩ rfl rfl (by kernel_rfl) (by kernel_rfl) Ybaf.func3 (by kernel_rfl)
    (of_decide_eq_true (by kernel_rfl)) (by unfold Func.isWrapper; first | (rw [if_pos (by decide +kernel)]; kernel_rfl) | (rw [if_neg (by decide +kernel)]; exact ⟨rfl, rfl⟩)) stops rfl stopKnobs.symm (by kernel_rfl)
    (by kernel_rfl) (by kernel_rfl) (by kernel_rfl) (by kernel_rfl) (by kernel_rfl) (by kernel_rfl) (by kernel_rfl) (by kernel_rfl) (by kernel_rfl) rfl (by kernel_rfl) rfl rfl
    rfl rfl
    rfl (by kernel_rfl) (by kernel_rfl) (by kernel_rfl) (by decide) (by kernel_rfl)
    (OpenClaim.moreEntering_of (by kernel_rfl) (by kernel_rfl) (by kernel_rfl) (by kernel_rfl) (by kernel_rfl) (by kernel_rfl) (by kernel_rfl) (by kernel_rfl) (by kernel_rfl) (by kernel_rfl))
    ⟨_, WideRow.started_initial, quiet _⟩
    (fun os started _ H enc _ => lifted os started H enc)

theorem proved : Rows.LawS2262ATwinFlagToldSaid := over
#print axioms proved
end Go.Proofs.YbulkatvaFmt.twin
