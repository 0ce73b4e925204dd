/-
  The proof of Rows.LawS2267BCountsToldSaid: the row's step and the card, over the walks.
-/
import Derived.Test.YbulkatxsFmtCntLaw
import Derived.Test.YbulkatxsFmtCards
import Derived.Test.YbulkatxsFmtTie
import Derived.ChangeSlices
import Derived.ChangeSame
import Derived.ChangeOld
import Derived.JoinedOf
import Derived.Carry
import Derived.OpenShut
import Derived.OpenVars
import Derived.Stop.JoinedAt
import Derived.Stop.LaidErr
import Derived.Stop.LaidTwo
import Derived.Deep.Grids
import Derived.Deep.SlicePairs
import Derived.Deep.DeepWitnessRef
import Derived.SizedLaws
import Derived.SevenTiedAt
namespace Go.Proofs.YbulkatxsFmt.cnt
open Go.ChangeShapes Go.WideShapes Go.ChangeAt Go.RowKit Go.Kit Go.Deep
open Go.Extern.Stop Go.Stop Go.Extern

theorem own : ownKnob Ybaf.prog.godebug = none := by kernel_rfl
theorem laidOut : laidOutB Ybaf.pinned.checked.prog = true := by kernel_rfl

theorem gU : Ybaf.prog.globalNamed "example.com/kenmore/kenmore.ErrUndefinedAlias" = some 1 := by kernel_rfl
theorem gC : Ybaf.prog.globalNamed "example.com/kenmore/kenmore.ErrAliasCycle" = some 0 := by kernel_rfl
theorem gN : Ybaf.prog.globalNamed "example.com/kenmore/kenmore.ErrUnusedAlias" = some 2 := by kernel_rfl
theorem gt0 : (Ybaf.prog.globals[0]?).map (·.type) = some 48 := by kernel_rfl
theorem gt1 : (Ybaf.prog.globals[1]?).map (·.type) = some 48 := by kernel_rfl
theorem gt2 : (Ybaf.prog.globals[2]?).map (·.type) = some 48 := by kernel_rfl
theorem star : "*" ++ "errors.errorString" = "*errors.errorString" := by decide
theorem row119 (u : TypeId) (h : Ybaf.prog.typeName? 3 u = some "*errors.errorString") : u = 119 :=
  typeName_ptr_named (nm := "errors.errorString") (by rw [star]; kernel_rfl) (by kernel_rfl) (by decide) u (by rw [star]; exact h)

/-- the first three of the list, all sentinels of one type -/
theorem sentinels3 {P : Program} {n0 n1 n2 nm : String} {text0 text1 text2 : List UInt8} {r : List (String × DataW Unit)} {W : World} {g0 g1 g2 : Nat} {ti tp te ts : TypeId} {ms : Array (String × TypeId)} {f : Field}
    (h : laidMet P ((n0, .iface nm (.ptr (.agg [.lit (.string text0)]))) :: (n1, .iface nm (.ptr (.agg [.lit (.string text1)]))) :: (n2, .iface nm (.ptr (.agg [.lit (.string text2)]))) :: r) W)
    (hg0 : P.globalNamed n0 = some g0) (ht0 : (P.globals[g0]?).map (·.type) = some ti) (hg1 : P.globalNamed n1 = some g1) (ht1 : (P.globals[g1]?).map (·.type) = some ti) (hg2 : P.globalNamed n2 = some g2) (ht2 : (P.globals[g2]?).map (·.type) = some ti)
    (hi : P.underlying ti = some (.interface ms)) (hrow : ∀ u, P.typeName? 3 u = some nm → u = tp)
    (hp : P.underlying tp = some (.pointer te)) (he : P.underlying te = some (.struct #[f])) (hft : f.type = ts) (hfo : f.offset = 0) (hs : P.underlying ts = some .string) (hc : P.cellsOf te = 1) (hcs : P.cellsOf ts = 1) :
    ∃ (a0 a1 a2 : Addr) (s0 s1 s2 : ByteArray) (c0 c1 c2 : Array Value) (t0 t1 t2 : TypeId),
      W.var? P n0 = some #[.iface tp (.pointer (some a0))] ∧ W.var? P n1 = some #[.iface tp (.pointer (some a1))] ∧ W.var? P n2 = some #[.iface tp (.pointer (some a2))] ∧
      W.cell? a0 = some (.string s0) ∧ W.cell? a1 = some (.string s1) ∧ W.cell? a2 = some (.string s2) ∧ a0 ≠ a1 ∧ a0 ≠ a2 ∧ a1 ≠ a2 ∧
      W.heap[a0.block]? = some (.cells c0 t0 (0, 0)) ∧ W.heap[a1.block]? = some (.cells c1 t1 (0, 0)) ∧ W.heap[a2.block]? = some (.cells c2 t2 (0, 0)) := by
  obtain ⟨ps, ⟨g0', t0', cs0, f0, p0, q0, hg0', ht0', hv0, hd0, ⟨g1', t1', cs1, f1, p1, q1, hg1', ht1', hv1, hd1, ⟨g2', t2', cs2, f2, p2, q2, hg2', ht2', hv2, hd2, _, e2⟩, e1⟩, e0⟩, hnd, hrows⟩ := h
  obtain rfl := Option.some.inj (hg0.symm.trans hg0')
  obtain rfl := Option.some.inj (hg1.symm.trans hg1')
  obtain rfl := Option.some.inj (hg2.symm.trans hg2')
  obtain rfl := Option.some.inj (ht0.symm.trans ht0')
  obtain rfl := Option.some.inj (ht1.symm.trans ht1')
  obtain rfl := Option.some.inj (ht2.symm.trans ht2')
  subst e2
  subst e1
  subst e0
  obtain ⟨l0⟩ := cs0
  obtain ⟨l1⟩ := cs1
  obtain ⟨l2⟩ := cs2
  have ok0 : ∀ u v, l0 = [.iface u v] → Value.okWide P W .any 0 u v := fun u v e => by
    subst e
    exact (hrows g0 0 (by simp [MemPlace.row])).2 u v (by simpa using World.var?_cell hg0' hv0 0)
  have ok1 : ∀ u v, l1 = [.iface u v] → Value.okWide P W .any 0 u v := fun u v e => by
    subst e
    exact (hrows g1 0 (by simp [MemPlace.row])).2 u v (by simpa using World.var?_cell hg1' hv1 0)
  have ok2 : ∀ u v, l2 = [.iface u v] → Value.okWide P W .any 0 u v := fun u v e => by
    subst e
    exact (hrows g2 0 (by simp [MemPlace.row])).2 u v (by simpa using World.var?_cell hg2' hv2 0)
  obtain ⟨a0, s0, rfl, hc0, hs0, hz0, rfl⟩ := errorString_of_trod hi hrow hp he hft hfo hs hc hcs hd0 ok0
  obtain ⟨a1, s1, rfl, hc1, hs1, hz1, rfl⟩ := errorString_of_trod hi hrow hp he hft hfo hs hc hcs hd1 ok1
  obtain ⟨a2, s2, rfl, hc2, hs2, hz2, rfl⟩ := errorString_of_trod hi hrow hp he hft hfo hs hc hcs hd2 ok2
  obtain ⟨c0, t0, hb0⟩ := (hrows a0.block a0.off (by simp [MemPlace.row])).1
  obtain ⟨c1, t1, hb1⟩ := (hrows a1.block a1.off (by simp [MemPlace.row])).1
  obtain ⟨c2, t2, hb2⟩ := (hrows a2.block a2.off (by simp [MemPlace.row])).1
  refine ⟨a0, a1, a2, s0, s1, s2, c0, c1, c2, t0, t1, t2, hv0, hv1, hv2, hc0, hc1, hc2, ?_, ?_, ?_, hb0, hb1, hb2⟩ <;> (rintro rfl; simp [MemPlace.row] at hnd)

set_option maxRecDepth 1000000 in
theorem sent_of (W : World) (h : laidMet Ybaf.prog Rows.lawS2267BCountsRow.laid W) : ∃ a0 a1 a2, Sent W a0 a1 a2 := by
  obtain ⟨au, ac, an, s0, s1, s2, c0, c1, c2, t0, t1, t2, hv0, hv1, hv2, hc0, hc1, hc2, n01, n02, n12, hb0, hb1, hb2⟩ := sentinels3 h gU gt1 gC gt0 gN gt2 Ybaf.underlying48 row119 Ybaf.underlying119 Ybaf.underlying121 rfl rfl Ybaf.underlying9 (by kernel_rfl) (by kernel_rfl)
  exact ⟨ac, au, an, by simpa using World.var?_cell gC hv1 0, by simpa using World.var?_cell gU hv0 0, by simpa using World.var?_cell gN hv2 0, ⟨_, hc1⟩, ⟨_, hc0⟩, ⟨_, hc2⟩, ⟨_, _, hb1⟩, ⟨_, _, hb0⟩, ⟨_, _, hb2⟩, n01.symm, n12, n02⟩

/-! ### a start in which the three sentinels lie as the program's text lays them -/
def textOf : DataW Unit → List UInt8
  | .iface _ (.ptr (.agg [.lit (.string t)])) => t
  | _ => []
noncomputable def low : Nat := (World.holding Ybaf.prog default ⟨#[], #[], []⟩).heap.size
def strO (t : List UInt8) : Obj := .cells #[.string ⟨t.toArray⟩] 121
noncomputable def laidWorld (os : Os) : World :=
  let w0 := World.holding Ybaf.prog os ⟨#[strO (textOf Rows.laid_example_com_kenmore_kenmore_ErrUndefinedAlias), strO (textOf Rows.laid_example_com_kenmore_kenmore_ErrAliasCycle), strO (textOf Rows.laid_example_com_kenmore_kenmore_ErrUnusedAlias)], #[], []⟩
  { w0 with heap := ((w0.heap.modify 1 fun
      | .cells _ t frozen => .cells #[.iface 119 (.pointer (some ⟨low, 0, none⟩))] t frozen
      | o => o).modify 0 fun
      | .cells _ t frozen => .cells #[.iface 119 (.pointer (some ⟨low + 1, 0, none⟩))] t frozen
      | o => o).modify 2 fun
      | .cells _ t frozen => .cells #[.iface 119 (.pointer (some ⟨low + 2, 0, none⟩))] t frozen
      | o => o }
set_option maxRecDepth 1000000 in
theorem laid_met (os : Os) (args : Array Value) : laidMet Ybaf.prog Rows.lawS2267BCountsRow.laid ((laidWorld os).forCall (fun _ _ => 0) ⟨#[], args, []⟩).memory :=
  laidMet_of_run (ps := [.cell 1 0, .cell low 0, .cell 0 0, .cell (low + 1) 0, .cell 2 0, .cell (low + 2) 0]) 8 (by kernel_rfl) (by kernel_rfl) (by kernel_rfl)

theorem spot_none {W : World} {x : Addr} {v : Value} (h : W.cell? (x.add 0) = some v) : ∃ b o, x = ⟨b, o, none⟩ := by
  obtain ⟨b, o, sp⟩ := x
  refine ⟨b, o, ?_⟩
  cases sp with
  | none => rfl
  | some q =>
    exfalso
    simp [World.cell?, Addr.add] at h
    split at h <;> simp_all

section
variable {H : Type} {enc : TypeId × Value → H} {W : World}
theorem bls_of {fuel : Nat} {a : Option Addr} {len cap : Nat} {x : DataW H × List MemPlace} (h : DataW.trod enc Ybaf.prog W 0 (fun _ => true) true fuel 22 [.slice a len cap] = some x) : ∃ f, Bls W a len f := by
  rcases open_bools Ybaf.underlying22 Ybaf.underlying4 (by kernel_rfl) h with ⟨hcs, _⟩ | ⟨x, l, c, B, hcs, _, hl, hm, _, hcell⟩
  · simp at hcs
    exact ⟨fun _ => false, .inl hcs.2.1⟩
  · simp at hcs
    obtain ⟨rfl, rfl, rfl⟩ := hcs
    by_cases h0 : len = 0
    · exact ⟨B, .inl h0⟩
    · obtain ⟨b, o, rfl⟩ := spot_none (hcell 0 (by omega))
      exact ⟨B, .inr ⟨b, o, rfl, fun k hk => by have := hcell k (by omega); rwa [Addr.add_lit] at this⟩⟩

instance : Inhabited Inp := ⟨⟨0, 0, false⟩⟩
set_option maxRecDepth 100000 in
theorem uss_of {fuel : Nat} {a : Option Addr} {len cap : Nat} {x : DataW H × List MemPlace} (h : DataW.trod enc Ybaf.prog W 0 (fun _ => true) true fuel 23 [.slice a len cap] = some x) : ∃ inp : List Inp, inp.length = len ∧ Uss W a inp := by
  have ce : Ybaf.prog.cellsOf 27 = 3 := by kernel_rfl
  rcases open_slice Ybaf.underlying23 h with ⟨hcs, _⟩ | ⟨y, l, c, m, n, D, Pl, hcs, _, hl, hm, hmm, _, hx⟩
  · simp at hcs
    exact ⟨[], by simp [hcs.2.1], .inl rfl⟩
  · simp at hcs
    obtain ⟨rfl, rfl, rfl⟩ := hcs
    have hlm : len ≤ m := by rw [hmm]; simp; omega
    have each : ∀ i, i < len → ∃ q : Inp, q.a < 256 ∧ q.i < 256 ∧ W.cell? (y.add (i * 3)) = some (.int .u8 q.a) ∧ W.cell? (y.add (i * 3 + 1)) = some (.int .u8 q.i) ∧ W.cell? (y.add (i * 3 + 2)) = some (.bool q.t) := by
      intro i hi
      obtain ⟨cs', h1, h2⟩ := hx i (by omega)
      rw [ce] at h1
      obtain ⟨_, hlen, hcell⟩ := World.cells?_some h1
      obtain ⟨xs, k, hk, hxy, _, hxl, hf⟩ := DataW.trod_struct Ybaf.underlying27 h2
      match xs, hxl, cs', hlen with
      | [y0, y1, y2], _, [v0, v1, v2], _ =>
        have c5 : Ybaf.prog.cellsOf 5 = 1 := by kernel_rfl
        have c4 : Ybaf.prog.cellsOf 4 = 1 := by kernel_rfl
        have g0 := hf 0 _ rfl
        have g1 := hf 1 _ rfl
        have g2 := hf 2 _ rfl
        simp [c5, c4] at g0 g1 g2
        obtain ⟨n0, e0, _, w0⟩ := DataW.trod_int Ybaf.underlying5 g0
        obtain ⟨n1, e1, _, w1⟩ := DataW.trod_int Ybaf.underlying5 g1
        obtain ⟨b2, e2, _⟩ := DataW.trod_bool Ybaf.underlying4 g2
        simp at e0 e1 e2
        subst e0 e1 e2
        have b0 := bounds_u8 w0
        have b1 := bounds_u8 w1
        have d0 := hcell 0 (by omega)
        have d1 := hcell 1 (by omega)
        have d2 := hcell 2 (by omega)
        rw [add_add] at d0 d1 d2
        exact ⟨⟨n0.toNat, n1.toNat, b2⟩, by show n0.toNat < 256; omega, by show n1.toNat < 256; omega, by rw [show ((n0.toNat : Nat) : Int) = n0 by omega]; simpa using d0, by rw [show ((n1.toNat : Nat) : Int) = n1 by omega]; simpa using d1, by simpa using d2⟩
    obtain ⟨q, hq⟩ := choose_lt each
    refine ⟨(List.range len).map q, by simp, ?_⟩
    by_cases h0 : len = 0
    · exact .inl (by simp [h0])
    · obtain ⟨b, o, rfl⟩ := spot_none (by have := (hq 0 (by omega)).2.2.1; simpa using this)
      refine .inr ⟨b, o, rfl, fun k z hz => ?_⟩
      have hk : k < len := by have := (List.getElem?_eq_some_iff.1 hz).1; simpa using this
      rw [List.getElem?_map, List.getElem?_range hk] at hz
      injection hz with hz
      subst hz
      obtain ⟨p1, p2, p3, p4, p5⟩ := hq k hk
      rw [Addr.add_lit] at p3 p4 p5
      exact ⟨p1, p2, p3, by rw [Nat.add_assoc]; exact p4, by rw [Nat.add_assoc]; exact p5⟩
end

theorem walk (F : Interp) (n : Int) (hn : (Lit.int .u8 n).wf = true) (ad au ak : Option Addr) (ld cd lu cu lk ck : Nat) (st : Bool) (W : World) (hF : F.answers W.tape) (hL : laidMet Ybaf.prog Rows.lawS2267BCountsRow.laid W) (hd : ∃ f, Bls W ad ld f) (hu : ∃ f, Bls W au lu f) (hk : ∃ inp : List Inp, inp.length = lk ∧ Uss W ak inp) :
    Calls Ybaf.prog 3 #[.int .u8 n, .slice ad ld cd, .slice au lu cu, .slice ak lk ck, .bool st] W fun e W' => e = .returned (.bool true) ∧ Below W.heap.size W W' := by
  have b := bounds_u8 hn
  obtain ⟨m, rfl⟩ : ∃ m : Nat, n = m := ⟨n.toNat, by omega⟩
  obtain ⟨fd, hd⟩ := hd
  obtain ⟨fu, hu⟩ := hu
  obtain ⟨inp, rfl, hk⟩ := hk
  by_cases h : inp.length ≤ 512
  · obtain ⟨a0, a1, a2, hS⟩ := sent_of W hL
    exact law_any F W m ad au ak ld cd lu cu ck fd fu inp st a0 a1 a2 hS hF (by omega) hd hu hk h
  · exact law_long W m ad au ak ld cd lu cu inp.length ck st (by omega)

set_option maxRecDepth 100000 in
theorem lifted (os : Os) (started : os.Started) (H : Type) (enc : TypeId × Value → H) :
    ReturnsInTold none {} Ybaf.checked os 3 .any Input.okWide ((OpenSpec.ofChange Rows.lawS2267BCountsSpec).preRow enc Ybaf.prog Ybaf.f3 [] false Rows.lawS2267BCountsRow.laid) (fun F => ((OpenSpec.ofChange Rows.lawS2267BCountsSpec).at F).post enc Ybaf.prog Ybaf.f3 false true false false) (aloneAtReturn Ybaf.prog) nothingAlways := by
  refine returnsInTold_of_row (C := Ybaf.checked) (s := OpenSpec.ofChange Rows.lawS2267BCountsSpec) (by kernel_rfl) own started (by kernel_rfl) Ybaf.func3
    (OpenSpec.witness_stopped_atRef (enc := enc) (C := Ybaf.checked) false (laidWorld os) #[.int .u8 0, .slice none 0 0, .slice none 0 0, .slice none 0 0, .bool false] rfl (by kernel_rfl) (by kernel_rfl) (by kernel_rfl)
      (OpenSpec.preRow_of_B rfl 8 (by kernel_rfl) (by kernel_rfl) (laid_met os _))) ?_
  intro F W base args ds gs before _ hF hval0 hW _ _ hsz hL _
  have hval : ∀ (j : Nat) t v, Ybaf.f3.params[j]? = some t → args[j]? = some v → Value.okWide Ybaf.prog W .any base t v := hval0
  have hW' := hW
  obtain ⟨p, q, hA0, hV0, rfl, _, _⟩ := hW
  have hA : DataW.TrodAll enc Ybaf.prog W 0 (fun _ => true) true Ybaf.f3.params.toList args.toList ds p := hA0
  have hV : DataW.TrodVars enc Ybaf.prog W (fun _ => true) ["example.com/kenmore/kenmore.ErrAliasCycle", "example.com/kenmore/kenmore.ErrUndefinedAlias", "example.com/kenmore/kenmore.ErrUnusedAlias"] gs q := hV0
  rw [Ybaf.params3] at hA hval
  obtain ⟨v0, vs0, d0, ds0, p0, q0, hargs, rfl, rfl, h0, r0⟩ := trodAll_cons hA
  obtain ⟨v1, vs1, d1, ds1, p1, q1, rfl, rfl, rfl, h1, r1⟩ := trodAll_cons r0
  obtain ⟨v2, vs2, d2, ds2, p2, q2, rfl, rfl, rfl, h2, r2⟩ := trodAll_cons r1
  obtain ⟨v3, vs3, d3, ds3, p3, q3, rfl, rfl, rfl, h3, r3⟩ := trodAll_cons r2
  obtain ⟨v4, vs4, d4, ds4, p4, q4, rfl, rfl, rfl, h4, r4⟩ := trodAll_cons r3
  obtain ⟨rfl, rfl, rfl⟩ := trodAll_nil r4
  obtain rfl : args = #[v0, v1, v2, v3, v4] := by cases args; simp_all
  obtain ⟨g1, g2, g3, rfl⟩ : ∃ g1 g2 g3, gs = [g1, g2, g3] := by
    match gs, hV with
    | [], h => exact h.elim
    | [_], h => obtain ⟨_, _, _, _, _, _, _, _, _, _, h, _⟩ := h; exact h.elim
    | [_, _], h => obtain ⟨_, _, _, _, _, _, _, _, _, _, ⟨_, _, _, _, _, _, _, _, _, _, h, _⟩, _⟩ := h; exact h.elim
    | [a, b, c], _ => exact ⟨a, b, c, rfl⟩
    | _ :: _ :: _ :: _ :: _, h => obtain ⟨_, _, _, _, _, _, _, _, _, _, ⟨_, _, _, _, _, _, _, _, _, _, ⟨_, _, _, _, _, _, _, _, _, _, h, _⟩, _⟩, _⟩ := h; exact h.elim
  obtain ⟨a1, len1, cap1, rfl⟩ := okWide_slice Ybaf.underlying22 (hval 1 22 v1 rfl rfl)
  obtain ⟨a2, len2, cap2, rfl⟩ := okWide_slice Ybaf.underlying22 (hval 2 22 v2 rfl rfl)
  obtain ⟨a3, len3, cap3, rfl⟩ := okWide_slice Ybaf.underlying23 (hval 3 23 v3 rfl rfl)
  have lt0 : ∀ x ∈ p0, x.block < W.heap.size := by obtain ⟨m, hm⟩ := h0; exact DataW.trod_lt m _ _ _ hm
  have lt1 : ∀ x ∈ p1, x.block < W.heap.size := by obtain ⟨m, hm⟩ := h1; exact DataW.trod_lt m _ _ _ hm
  have lt2 : ∀ x ∈ p2, x.block < W.heap.size := by obtain ⟨m, hm⟩ := h2; exact DataW.trod_lt m _ _ _ hm
  have lt3 : ∀ x ∈ p3, x.block < W.heap.size := by obtain ⟨m, hm⟩ := h3; exact DataW.trod_lt m _ _ _ hm
  have lt4 : ∀ x ∈ p4, x.block < W.heap.size := by obtain ⟨m, hm⟩ := h4; exact DataW.trod_lt m _ _ _ hm
  have w1 : ∃ f, Bls W a1 len1 f := by obtain ⟨fuel, hf⟩ := h1; exact bls_of hf
  have w2 : ∃ f, Bls W a2 len2 f := by obtain ⟨fuel, hf⟩ := h2; exact bls_of hf
  have w3 : ∃ inp : List Inp, inp.length = len3 ∧ Uss W a3 inp := by obtain ⟨fuel, hf⟩ := h3; exact uss_of hf
  have k0 := h0
  have k4 := h4
  obtain ⟨n, rfl, -, -, wn⟩ := open_int Ybaf.underlying5 (hval 0 5 v0 rfl rfl) h0
  obtain ⟨st, rfl, -, -⟩ := open_bool Ybaf.underlying4 (hval 4 4 v4 rfl rfl) h4
  clear hA0 hval0
  refine (walk F.told n wn a1 a2 a3 len1 cap1 len2 cap2 len3 cap3 st W hF hL w1 w2 w3).mono fun e W' ⟨he, bel⟩ => ?_
  subst he
  exact ⟨_, rfl, _, _, _, [], _, _, hW', trodAll_mk1 (shut_bool Ybaf.underlying4 _), (trodAll_cons_mk (Below.trod laidOut (by kernel_rfl) (of_decide_eq_true (by kernel_rfl)) k0 bel lt0) (trodAll_cons_mk (Below.trod laidOut (by kernel_rfl) (of_decide_eq_true (by kernel_rfl)) h1 bel lt1) (trodAll_cons_mk (Below.trod laidOut (by kernel_rfl) (of_decide_eq_true (by kernel_rfl)) h2 bel lt2) (trodAll_cons_mk (Below.trod laidOut (by kernel_rfl) (of_decide_eq_true (by kernel_rfl)) h3 bel lt3) (trodAll_cons_mk (Below.trod laidOut (by kernel_rfl) (of_decide_eq_true (by kernel_rfl)) k4 bel lt4) trodAll_mk0))))), Below.trodVars laidOut bel (by kernel_rfl) hV, bel.frame _, fun h => by cases h⟩

theorem stops : Rows.lawS2267BCountsRow.stops = Ybaf.pinned.checked.prog.stops := by kernel_rfl
theorem stopKnobs : Ybaf.pinned.checked.prog.stopKnobs = [] := by kernel_rfl
theorem quiet (os : Os) : Stop.quiet Ybaf.pinned.checked.prog os := by
  intro k hk
  rw [stopKnobs] at hk
  cases hk

theorem over : Claim7.holds Ybaf.pinned (.plain (OpenSpec.ofChange Rows.lawS2267BCountsSpec)) (Claim7.toldTiedRowAt .later Rows.lawS2267BCountsRow (true, "556761061a9e12d5fe8ed9e0597328d1b7501bef9f772ec8f0fe784375b85e4d") true false [.called, .called, .called] true) :=
  Claim7.holds_of_told_tied_any_at .later 3 Ybaf.f3 _ _ [] _ _ _ _ _ (by kernel_rfl) rfl rfl rfl laidOut (by kernel_rfl) rfl ⟨rfl, rfl, rfl, rfl, rfl, rfl, rfl⟩ rfl rfl (by kernel_rfl) (by kernel_rfl) Ybaf.func3 (by kernel_rfl)
    (of_decide_eq_true (by kernel_rfl)) (by unfold Func.isWrapper; first | (rw [if_pos (by decide +kernel)]; kernel_rfl) | (rw [if_neg (by decide +kernel)]; exact ⟨rfl, rfl⟩)) stops rfl stopKnobs.symm (by kernel_rfl)
    (by kernel_rfl) (by kernel_rfl) (by kernel_rfl) (by kernel_rfl) (by kernel_rfl) (by kernel_rfl) (by kernel_rfl) (by kernel_rfl) (by kernel_rfl) rfl (by kernel_rfl) rfl rfl
    rfl rfl
    rfl (by kernel_rfl) (by kernel_rfl) (by kernel_rfl) (by decide) (by kernel_rfl) lawS2267BCounts_row_tie
    (OpenClaim.moreEntering_of (by kernel_rfl) (by kernel_rfl) (by kernel_rfl) (by kernel_rfl) (by kernel_rfl) (by kernel_rfl) (by kernel_rfl) (by kernel_rfl) (by kernel_rfl) (by kernel_rfl))
    ⟨_, WideRow.started_initial, quiet _⟩
    (fun os started _ H enc _ => lifted os started H enc)

theorem proved : Rows.LawS2267BCountsToldSaid := over
#print axioms proved
end Go.Proofs.YbulkatxsFmt.cnt
