/-
  Of LawS2267BCounts: how the walk of cycles stands.
-/
import Derived.Test.YbulkatxsFmtCntPath
namespace Go.Proofs.YbulkatxsFmt.cnt
open Go.ChangeShapes Go.WideShapes Go.ChangeAt Go.RowKit Go
open Go.Extern.Stop Go.Stop Go.Extern

/-- held, sorted -/
structure Hld (w : World) (b : Nat) (a : Option Addr) (c : Nat) (L : List Hu) : Prop where
  len : L.length ≤ 1000
  cap : L.length ≤ c
  e0 : L = [] → a = .none ∧ c = 0
  e1 : L ≠ [] → a = some ⟨b, 0, .none⟩
  held : Held w b 0 L
  asc : ∀ (j k : Nat) h h', j ≤ k → L[j]? = some h → L[k]? = some h' → h.i ≤ h'.i
theorem Hld.keep {S : Nat → Prop} {w w' : World} {b : Nat} {a : Option Addr} {c : Nat} {L : List Hu} (h : Hld w b a c L) (k : Keep S w w') (hb : ¬ S b) : Hld w' b a c L := ⟨h.len, h.cap, h.e0, h.e1, h.held.keep k hb, h.asc⟩
theorem Hld.of {w : World} {b : Nat} {a : Option Addr} {c : Nat} {L : List Hu} (h : Hld w b a c L) (n : Nat) (hn : n < 1000) :
    Calls Ybaf.prog 18 #[.slice a L.length c, .int .i32 n] w fun e w' => ∃ v, e = .returned v ∧ Keep No w w' ∧ HSl w' b v (ofL L n) := of_any a b c L n w h.len hn h.cap h.e0 h.e1 h.held h.asc

/-- the marks of the walk -/
def Sta (w : World) (sb N : Nat) (st : Nat → Nat) : Prop := (∀ n, n < N → w.cell? ⟨sb, n, .none⟩ = some (.int .u8 (st n))) ∧ ∀ j, w.frozen? ⟨sb, j, .none⟩ = false

theorem Sta.keep {S : Nat → Prop} {w w' : World} {sb N : Nat} {st : Nat → Nat} (h : Sta w sb N st) (k : Keep S w w') (hs : ¬ S sb) (hlt : sb < w.heap.size) : Sta w' sb N st :=
  ⟨fun n hn => (k.cell (p := ⟨sb, n, .none⟩) hlt hs).trans (h.1 n hn), fun j => (k.frozen (p := ⟨sb, j, .none⟩) hlt hs).trans (h.2 j)⟩
theorem Sta.set {w : World} {sb N : Nat} {st : Nat → Nat} (h : Sta w sb N st) (v k : Nat) : Sta (w.setCell ⟨sb, v, .none⟩ (.int .u8 k)) sb N (fun n => if n = v then k else st n) := by
  refine ⟨fun n hn => ?_, fun j => by rw [World.frozen?_setCell]; exact h.2 j⟩
  show _ = some (Value.int .u8 ((if n = v then k else st n : Nat) : Int))
  by_cases e : n = v
  · subst e
    rw [World.cell?_setCell_same _ _ _ (h.1 n hn), if_pos rfl]
  · rw [World.cell?_setCell_other _ _ _ _ (by intro x; injection x with _ x2; exact e x2.symm), h.1 n hn, if_neg e]

theorem info5 : (Ybaf.prog.info? 5).map (fun i => (i.zero, i.size, i.bytes)) = some (some (.int .u8 0), 1, 1) := by kernel_rfl
theorem info116 : (Ybaf.prog.info? 116).map (fun i => (i.zero, i.size, i.bytes)) = some (some (.agg #[.int .i32 0, .slice .none 0 0]), 2, 32) := by kernel_rfl
theorem makeState (n : Nat) (hn : n ≤ 8) (w : World) : (Instr.makeSlice 25 (.int .i64 n) (.int .i64 n)).run Ybaf.prog w = .ok (.slice (some ⟨w.heap.size, 0, .none⟩) n n) (w.alloc (.cells (madeCells #[.int .u8 0] n) 5)) := by
  obtain ⟨i, hi, hz, hs, hb⟩ := info_parts info5
  have h := run_make (P := Ybaf.prog) w 25 5 i _ Ybaf.underlying25 hi hz .i64 .i64 n n (by omega) (by omega) (by rw [hb]; omega) (by omega)
  rw [hs, Int.toNat_natCast, Nat.mul_one] at h
  exact h
theorem sta_new (w : World) (n : Nat) : Sta (w.alloc (.cells (madeCells #[.int .u8 0] n) 5)) w.heap.size n (fun _ => 0) := by
  have hn := heap_alloc_new w (.cells (madeCells #[.int .u8 0] n) 5)
  refine ⟨fun k hk => ?_, fun j => ?_⟩
  · unfold World.cell?
    rw [hn]
    simp [madeCells, hk, Nat.mod_one]
  · unfold World.frozen?
    rw [hn]
    simp

/-- what lies in memory while cycles walks -/
structure Lie (G : Geo) (w : World) (hb : Nat) (used : Nat → Bool) (u nn : Nat) (v : Value) (wr : World) (c : Nat) (st : Nat → Nat) (p : List (Nat × List Hu)) (xs : List Value) : Prop where
  keep : Keep (fun i => i = G.g + 1) w wr
  mt : Mut G wr used c u nn
  sta : Sta wr w.heap.size G.N st
  lt : w.heap.size < wr.heap.size
  row : wr.ownsRow (w.heap.size + 1) 116 2 v p.length xs
  prow : PRow wr hb p xs

theorem ownsRow_keep {S : Nat → Prop} {w w' : World} {base : Nat} {e : TypeId} {size : Nat} {v : Value} {n : Nat} {xs : List Value} (h : w.ownsRow base e size v n xs) (k : Keep S w w') (hn : ∀ g, v.ownBlock = some g → ¬ S g) : w'.ownsRow base e size v n xs := by
  refine ⟨h.1, ?_⟩
  rcases h.2 with h' | ⟨g, cap, cur, rfl, hb, hg, r⟩
  · exact .inl h'
  · exact .inr ⟨g, cap, cur, rfl, hb, (k.block g (lt_of_heap hg) (hn g rfl)).trans hg, r⟩
theorem Keep.grown {w w' : World} {row : Option Nat} (h : w.grownBy w' row) : Keep (fun i => some i = row) w w' := ⟨h.os, h.tape, h.output, h.size, fun k hk hn => h.block k hk hn⟩

section
variable {G : Geo} {w : World} {hb : Nat} {used : Nat → Bool} {u nn : Nat} {v : Value} {wr : World} {c : Nat} {st : Nat → Nat} {p : List (Nat × List Hu)} {xs : List Value}

theorem Lie.step {T : Nat → Prop} {wr' : World} {v' : Value} {p' : List (Nat × List Hu)} {xs' : List Value} (h : Lie G w hb used u nn v wr c st p xs) (o : G.Ok) (sz : G.g + 3 < w.heap.size) (k : Keep T wr wr') (hT : ∀ i, T i → w.heap.size + 1 ≤ i)
    (row : wr'.ownsRow (w.heap.size + 1) 116 2 v' p'.length xs') (prow : PRow wr' hb p' xs') : Lie G w hb used u nn v' wr' c st p' xs' := by
  have e1 := o.rg; have e2 := o.lR; have e3 := o.mL; have e4 := o.kM
  refine ⟨h.keep.then k (fun i hi ht => by have := hT i ht; omega), h.mt.keep k o.n0 (fun i ht => by have := hT i ht; omega), h.sta.keep k (fun ht => by have := hT _ ht; omega) h.lt, Nat.lt_of_lt_of_le h.lt k.size, row, prow⟩
theorem Lie.keepNo {wr' : World} (h : Lie G w hb used u nn v wr c st p xs) (o : G.Ok) (sz : G.g + 3 < w.heap.size) (k : Keep No wr wr') : Lie G w hb used u nn v wr' c st p xs :=
  h.step o sz k (fun _ hi => hi.elim) (ownsRow_keep h.row k fun _ _ hi => hi) (h.prow.keep k fun hi => hi)
theorem Lie.mark (h : Lie G w hb used u nn v wr c st p xs) (o : G.Ok) (sz : G.g + 3 < w.heap.size) (hbl : hb < w.heap.size) (d k : Nat) : Lie G w hb used u nn v (wr.setCell ⟨w.heap.size, d, .none⟩ (.int .u8 k)) c (fun n => if n = d then k else st n) p xs := by
  have e1 := o.rg; have e2 := o.lR; have e3 := o.mL; have e4 := o.kM
  have kk : Keep (fun i => i = w.heap.size) wr (wr.setCell ⟨w.heap.size, d, .none⟩ (.int .u8 k)) := (Keep.refl (fun i => i = w.heap.size) wr).setCell (p := ⟨w.heap.size, d, .none⟩) (fun _ => rfl) _
  refine ⟨h.keep.then kk (fun i hi ht => by omega), h.mt.keep kk o.n0 (fun i ht => by omega), h.sta.set d k, by simpa using h.lt, ownsRow_keep h.row kk (fun g hg ht => by have := (h.row.lt g hg).1; omega), h.prow.keep kk (fun ht => by omega)⟩
theorem Lie.push {w' : World} {v' x : Value} {R : List Hu} {d : Nat} (h : Lie G w hb used u nn v wr c st p xs) (o : G.Ok) (sz : G.g + 3 < w.heap.size) (hbl : hb < w.heap.size) (hx : HSl wr hb x R)
    (hown : w'.ownsRow (w.heap.size + 1) 116 2 v' (p.length + 1) (xs ++ [.int .i32 d, x])) (hg : wr.grownBy w' v.ownBlock) : Lie G w hb used u nn v' w' c st ((d, R) :: p) (xs ++ [.int .i32 d, x]) := by
  have hn : ¬ (some hb = v.ownBlock) := fun e => by have := (h.row.lt hb e.symm).1; omega
  exact h.step o sz (Keep.grown hg) (fun i hi => (h.row.lt i hi.symm).1) hown ⟨xs, x, rfl, hx.keep (Keep.grown hg) hn, h.prow.keep (Keep.grown hg) hn⟩
theorem Lie.top {d : Nat} {R : List Hu} (h : Lie G w hb used u nn v wr c st ((d, R) :: p) xs) : ∃ g cap x ys, v = .slice (some ⟨g, 0, .none⟩) (p.length + 1) cap ∧ w.heap.size + 1 ≤ g ∧ g < wr.heap.size ∧ p.length + 1 ≤ cap ∧
    xs = ys ++ [.int .i32 d, x] ∧ PRow wr hb p ys ∧ HSl wr hb x R ∧ wr.cell? ⟨g, p.length * 2, .none⟩ = some (.int .i32 d) ∧ wr.cell? ⟨g, p.length * 2 + 1, .none⟩ = some x ∧ (∀ j, wr.frozen? ⟨g, j, .none⟩ = false) := by
  obtain ⟨ys, x, e, hx, hp⟩ := h.prow
  have hr := h.row
  obtain ⟨g, cap, ev⟩ : ∃ g cap, v = .slice (some ⟨g, 0, .none⟩) (p.length + 1) cap := by
    rcases hr.2 with ⟨_, h0⟩ | ⟨g, cap, cur, rfl, _⟩
    · simp at h0
    · exact ⟨g, cap, rfl⟩
  subst ev
  have hyl := hp.length
  have hcap : p.length + 1 ≤ cap := by
    rcases hr.2 with ⟨h0, _⟩ | ⟨g, cap, cur, h0, _, _, hc, _⟩
    · simp at h0
    · injection h0 with _ _ h0; subst h0; exact hc
  refine ⟨g, cap, x, ys, rfl, (hr.lt g rfl).1, (hr.lt g rfl).2, hcap, e, hp, hx, ?_, ?_, fun j => hr.frozenAt j⟩
  · rw [hr.cellAt (p.length * 2) (by show _ < (p.length + 1) * 2; omega), e, List.getElem?_append_right (by omega), show p.length * 2 - ys.length = 0 by omega]; rfl
  · rw [hr.cellAt (p.length * 2 + 1) (by show _ < (p.length + 1) * 2; omega), e, List.getElem?_append_right (by omega), show p.length * 2 + 1 - ys.length = 1 by omega]; rfl
theorem Lie.pop {d g cap : Nat} {R : List Hu} (h : Lie G w hb used u nn (.slice (some ⟨g, 0, .none⟩) (p.length + 1) cap) wr c st ((d, R) :: p) xs) (o : G.Ok) (sz : G.g + 3 < w.heap.size) :
    Lie G w hb used u nn (.slice (some ⟨g, 0, .none⟩) p.length cap) wr c st p (xs.take (p.length * 2)) := by
  obtain ⟨ys, x, e, hx, hp⟩ := h.prow
  have hyl := hp.length
  refine h.step o sz (Keep.refl No wr) (fun _ hi => hi.elim) (ownsRow_cut h.row p.length (by simp)) ?_
  rw [e, List.take_append_of_le_length (by omega), List.take_of_length_le (by omega)]
  exact hp
theorem Lie.rest {d g cap : Nat} {R R' : List Hu} {x' : Value} (h : Lie G w hb used u nn (.slice (some ⟨g, 0, .none⟩) (p.length + 1) cap) wr c st ((d, R) :: p) xs) (o : G.Ok) (sz : G.g + 3 < w.heap.size) (hbl : hb < w.heap.size) (hx' : HSl wr hb x' R') :
    Lie G w hb used u nn (.slice (some ⟨g, 0, .none⟩) (p.length + 1) cap) (wr.setCell ⟨g, p.length * 2 + 1, .none⟩ x') c st ((d, R') :: p) (xs.set (p.length * 2 + 1) x') := by
  obtain ⟨ys, x, e, hx, hp⟩ := h.prow
  have hyl := hp.length
  have hg := (h.row.lt g rfl).1
  have kk : Keep (fun i => i = g) wr (wr.setCell ⟨g, p.length * 2 + 1, .none⟩ x') := (Keep.refl (fun i => i = g) wr).setCell (p := ⟨g, p.length * 2 + 1, .none⟩) (fun _ => rfl) _
  refine h.step o sz kk (fun _ hi => by omega) (h.row.stored _ _).1 ⟨ys, x', ?_, hx'.keep kk (by omega), hp.keep kk (by omega)⟩
  rw [e, List.set_append_right _ _ (by omega), show p.length * 2 + 1 - ys.length = 1 by omega]
  rfl
theorem Lie.told {wr' : World} {c' : Nat} (h : Lie G w hb used u nn v wr c st p xs) (k : Keep (fun i => i = G.g + 1) wr wr') (sz : G.g + 3 < w.heap.size) (hne : hb ≠ G.g + 1) (m : Mut G wr' used c' u nn) : Lie G w hb used u nn v wr' c' st p xs :=
  ⟨h.keep.then k (fun _ _ h => h), m, h.sta.keep k (by omega) h.lt, Nat.lt_of_lt_of_le h.lt k.size, ownsRow_keep h.row k (fun g hg e => by have := (h.row.lt g hg).1; omega), h.prow.keep k hne⟩
theorem HSl.tail {g : Nat} {a : Option Addr} {c n : Nat} {x : Hu} {R : List Hu} (h : HSl wr g (.slice a n c) (x :: R)) : ∃ f, a = some ⟨g, f * 5, .none⟩ ∧ n = R.length + 1 ∧ R.length + 1 ≤ c ∧ HuAt wr g (f * 5) x ∧ Held wr g ((f + 1) * 5) R := by
  obtain ⟨a', c', f, e, h1, h2, h3⟩ := h
  injection e with e1 e2 e3
  subst e1 e3
  refine ⟨f, h2 (by simp), e2, h1, by have := h3 0 x rfl; simpa using this, fun j y hj => ?_⟩
  have := h3 (j + 1) y (by simpa using hj)
  rwa [show f * 5 + (j + 1) * 5 = (f + 1) * 5 + j * 5 by omega] at this
theorem HSl.form {g : Nat} {R : List Hu} (h : HSl wr g v R) : ∃ a c, v = .slice a R.length c ∧ R.length ≤ c := by
  obtain ⟨a', c', f, e, h1, h2, h3⟩ := h
  exact ⟨a', c', e, h1⟩
end

theorem potU_le {L : List Hu} {st : Nat → Nat} : ∀ r : List Nat, potU L st r ≤ r.length * (L.length + 2)
  | [] => by simp [potU]
  | n :: r => by
    have h1 := potU_le (L := L) (st := st) r
    have h2 : (ofL L n).length ≤ L.length := List.length_filter_le _ _
    unfold potU
    rw [List.length_cons, Nat.add_mul, Nat.one_mul]
    split <;> omega
end Go.Proofs.YbulkatxsFmt.cnt
