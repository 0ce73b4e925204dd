/-
  Of LawS2267BCounts: the law's memory, the aliases and on.
-/
import Derived.Test.YbulkatxsFmtCntLaw0
import Derived.Laws.IdiomCopy
namespace Go.Proofs.YbulkatxsFmt.cnt
open Go.ChangeShapes Go.WideShapes Go.ChangeAt Go.RowKit Go

def KOk (N : Nat) (dfn use : Nat → Bool) (i : Nat) (g : Nat → Value) : Prop := ∀ m, m < N → g (m * 7) = .int .u8 0 ∧ (∃ s, g (m * 7 + 1) = .string s) ∧ g (m * 7 + 2) = .int .u32 0 ∧ g (m * 7 + 3) = .int .u32 0 ∧ g (m * 7 + 4) = .int .u32 0 ∧ g (m * 7 + 5) = .bool (decide (m < i) && dfn m) ∧ g (m * 7 + 6) = .bool (decide (m < i) && use m)

def zero7 : Array Value := #[.int .u8 0, .string ⟨#[]⟩, .int .u32 0, .int .u32 0, .int .u32 0, .bool false, .bool false]
theorem arr_new7 (w : World) (n : Nat) : Arr (w.alloc (.cells (madeCells zero7 n) 38)) w.heap.size n (fun i => zero7.getD (i % 7) .nilIface) := by
  have hn := heap_alloc_new w (.cells (madeCells zero7 n) 38)
  refine ⟨fun k hk => ?_, fun j => ?_⟩
  · unfold World.cell?
    rw [hn]
    have h7 : k % 7 < 7 := Nat.mod_lt _ (by omega)
    have e : zero7.size = 7 := rfl
    simp [madeCells, e, Array.getD, h7, hk]
  · unfold World.frozen?
    rw [hn]
    simp
theorem KOk.start (N : Nat) (dfn use : Nat → Bool) : KOk N dfn use 0 (fun i => zero7.getD (i % 7) .nilIface) := by
  intro m _
  have e0 : m * 7 % 7 = 0 := by omega
  have e1 : (m * 7 + 1) % 7 = 1 := by omega
  have e2 : (m * 7 + 2) % 7 = 2 := by omega
  have e3 : (m * 7 + 3) % 7 = 3 := by omega
  have e4 : (m * 7 + 4) % 7 = 4 := by omega
  have e5 : (m * 7 + 5) % 7 = 5 := by omega
  have e6 : (m * 7 + 6) % 7 = 6 := by omega
  simp only [e0, e1, e2, e3, e4, e5, e6]
  exact ⟨rfl, ⟨_, rfl⟩, rfl, rfl, rfl, by simp [zero7], by simp [zero7]⟩

/-- seven cells written -/
def put7 (g : Nat → Value) (o : Nat) (s : ByteArray) (d u : Bool) : Nat → Value := fun x => if x = o + 6 then .bool u else if x = o + 5 then .bool d else if x = o + 4 then .int .u32 0 else if x = o + 3 then .int .u32 0 else if x = o + 2 then .int .u32 0 else if x = o + 1 then .string s else if x = o then .int .u8 0 else g x
theorem KOk.put {N : Nat} {dfn use : Nat → Bool} {i : Nat} {g : Nat → Value} (h : KOk N dfn use i g) (s : ByteArray) : KOk N dfn use (i + 1) (put7 g (i * 7) s (dfn i) (use i)) := by
  intro m hm
  by_cases e : m = i
  · subst e
    refine ⟨?_, ⟨s, ?_⟩, ?_, ?_, ?_, ?_, ?_⟩ <;> simp [put7]
  · have hlt : (m < i + 1) ↔ (m < i) := by omega
    have hk : ∀ j, j < 7 → put7 g (i * 7) s (dfn i) (use i) (m * 7 + j) = g (m * 7 + j) := fun j hj => by
      unfold put7
      rw [if_neg (by omega), if_neg (by omega), if_neg (by omega), if_neg (by omega), if_neg (by omega), if_neg (by omega), if_neg (by omega)]
    have h0 := hk 0 (by omega)
    rw [Nat.add_zero] at h0
    rw [h0, hk 1 (by omega), hk 2 (by omega), hk 3 (by omega), hk 4 (by omega), hk 5 (by omega), hk 6 (by omega), show decide (m < i + 1) = decide (m < i) by simp [hlt]]
    exact h m hm

/-- the bytes of the log -/
def Buf (A K Y : Nat) (us : List Us) (v : Value) (wr : World) : Prop := (us = [] ∧ v = .slice .none 0 0) ∨ (us ≠ [] ∧ BSl wr Y v (bytesOf us) ∧ A + 2 ≤ Y ∧ Y < K)

theorem bytes_pos {us : List Us} (h : us ≠ []) : 0 < (bytesOf us).length := by
  cases us with
  | nil => exact absurd rfl h
  | cons u r =>
    have := Lib.uvarint_pos u.a
    simp only [bytesOf, List.length_append]
    omega
theorem buf_of {A : Nat} {us : List Us} {v : Value} {wr : World} (hr : wr.ownsRow (A + 2) 5 1 v (bytesOf us).length (Lib.byteCells (bytesOf us))) (hn : us = [] → v = .slice .none 0 0) : ∃ Y, Buf A wr.heap.size Y us v wr := by
  by_cases h : us = []
  · exact ⟨0, .inl ⟨h, hn h⟩⟩
  · have hp := bytes_pos h
    rcases hr.2 with ⟨_, h'⟩ | ⟨g, cap, cur, hv, hb, hg, hc, _⟩
    · omega
    · subst hv
      refine ⟨g, .inr ⟨h, ⟨0, cap, rfl, hc, fun j hj => ?_⟩, hb, lt_of_heap hg⟩⟩
      rw [Nat.zero_add, hr.cellAt j (by omega), Lib.byteCells, List.getElem?_map, List.getElem?_eq_getElem hj]
      rfl

structure Lm4 (w : World) (st : Bool) (N : Nat) (dfn u : Nat → Bool) (A D : Nat) (defs : List Nat) (n : Nat) (fa fi : Nat → Value) (K Y : Nat) (us : List Us) (v : Value) (g : Nat → Value) (wr : World) : Prop where
  m3 : Lm3 w st N dfn u A D defs n fa fi wr
  bf : Buf A K Y us v wr
  ka : Arr wr K (N * 7) g
  k0 : A + 2 ≤ K
  k1 : K < wr.heap.size
section
variable {w : World} {st : Bool} {N : Nat} {dfn u : Nat → Bool} {A D : Nat} {defs : List Nat} {n : Nat} {fa fi : Nat → Value} {K Y : Nat} {us : List Us} {v : Value} {g : Nat → Value} {wr wr' : World}
theorem Buf.keep {T : Nat → Prop} (h : Buf A K Y us v wr) (k : Keep T wr wr') (hT : ∀ i, T i → K ≤ i) : Buf A K Y us v wr' := by
  rcases h with h | ⟨h1, h2, h3, h4⟩
  · exact .inl h
  · exact .inr ⟨h1, h2.keep k (fun ht => by have := hT _ ht; omega), h3, h4⟩
theorem Lm4.step {T : Nat → Prop} (h : Lm4 w st N dfn u A D defs n fa fi K Y us v g wr) (k : Keep T wr wr') (hT : ∀ i, T i → K + 1 ≤ i) : Lm4 w st N dfn u A D defs n fa fi K Y us v g wr' := by
  have k0 := h.k0
  exact ⟨h.m3.step k (fun i hi => by have := hT i hi; omega), h.bf.keep k (fun i hi => by have := hT i hi; omega), h.ka.keep k (fun ht => by have := hT _ ht; omega) h.k1, h.k0, Nat.lt_of_lt_of_le h.k1 k.size⟩
theorem Lm4.setK (h : Lm4 w st N dfn u A D defs n fa fi K Y us v g wr) (j : Nat) (x : Value) : Lm4 w st N dfn u A D defs n fa fi K Y us v (fun i => if i = j then x else g i) (wr.setCell ⟨K, j, .none⟩ x) := by
  have k0 := h.k0
  have k : Keep (fun i => i = K) wr (wr.setCell ⟨K, j, .none⟩ x) := (Keep.refl (fun i => i = K) wr).setCell (p := ⟨K, j, .none⟩) (fun _ => rfl) _
  exact ⟨h.m3.step k (fun i hi => by omega), h.bf.keep k (fun i hi => by omega), h.ka.set j x, h.k0, Nat.lt_of_lt_of_le h.k1 k.size⟩
theorem Buf.form (h : Buf A K Y us v wr) : ∃ ab cb, v = .slice ab (bytesOf us).length cb ∧ ((bytesOf us).length = 0 ↔ us = []) := by
  rcases h with ⟨rfl, h⟩ | ⟨h1, h2, _, _⟩
  · exact ⟨_, _, h, by simp [bytesOf]⟩
  · obtain ⟨o, c, e, _⟩ := h2.form
    have := bytes_pos h1
    exact ⟨_, _, e, ⟨fun h => by omega, fun h => absurd h h1⟩⟩
end

def refsO (K N : Nat) (da : Option Addr) (dl cdd : Nat) (bv : Value) (L : Nat) : Obj := .cells #[.map .none, .slice (some ⟨K, 0, .none⟩) N N, .slice da dl cdd, bv, .int .u32 0, .int .u32 0, .int .u32 0, .pointer (some ⟨L, 0, .none⟩)] 60

/-- the law's memory, the references laid -/
structure Lm5 (w : World) (st : Bool) (N : Nat) (dfn u : Nat → Bool) (A D : Nat) (defs : List Nat) (n : Nat) (fa fi : Nat → Value) (K Y : Nat) (us : List Us) (v : Value) (g : Nat → Value) (H : Nat) (da : Option Addr) (cdd : Nat) (bv : Value) (wr : World) : Prop where
  m4 : Lm4 w st N dfn u A D defs n fa fi K Y us v g wr
  mM : wr.cell? ⟨H, 0, .none⟩ = some (.string ⟨#[102]⟩)
  mL : wr.cell? ⟨H + 1, 1, .none⟩ = some (.slice (some ⟨H, 0, .none⟩) 1 1)
  mR : wr.heap[H + 2]? = some (refsO K N da defs.length cdd bv (H + 1))
  lg : (us = [] ∧ bv = .slice .none 0 0) ∨ ∃ X, bv = .slice (some ⟨X, 0, .none⟩) 1 1 ∧ wr.cell? ⟨X, 0, .none⟩ = some v ∧ us ≠ [] ∧ H + 3 ≤ X
  h0 : K < H
section
variable {w : World} {st : Bool} {N : Nat} {dfn u : Nat → Bool} {A D : Nat} {defs : List Nat} {n : Nat} {fa fi : Nat → Value} {K Y : Nat} {us : List Us} {v : Value} {g : Nat → Value} {H : Nat} {da : Option Addr} {cdd : Nat} {bv : Value} {wr wr' : World}
theorem Lm5.step {T : Nat → Prop} (h : Lm5 w st N dfn u A D defs n fa fi K Y us v g H da cdd bv wr) (k : Keep T wr wr') {B : Nat} (hB : B = wr.heap.size) (hT : ∀ i, T i → B ≤ i) : Lm5 w st N dfn u A D defs n fa fi K Y us v g H da cdd bv wr' := by
  subst hB
  have e1 := lt_of_heap h.mR
  have e2 := h.h0
  have f : ∀ b, b < wr.heap.size → ¬ T b := fun b hb ht => by have := hT b ht; omega
  have gc : ∀ {p : Addr} {x : Value}, wr.cell? p = some x → wr'.cell? p = some x := fun {p x} hp => (k.cell (World.block_lt_of_cell? wr _ hp) (f _ (World.block_lt_of_cell? wr _ hp))).trans hp
  refine ⟨h.m4.step k (fun i hi => by have := hT i hi; omega), gc h.mM, gc h.mL, (k.block _ e1 (f _ e1)).trans h.mR, ?_, h.h0⟩
  rcases h.lg with h' | ⟨X, h1, h2, h3⟩
  · exact .inl h'
  · exact .inr ⟨X, h1, gc h2, h3⟩
end
def namesO : Obj := .cells #[.string ⟨#[102]⟩] 9
def filesO (H : Nat) : Obj := .cells #[.nilFunc, .slice (some ⟨H, 0, .none⟩) 1 1, .map .none, .slice .none 0 0, .slice .none 0 0, .map .none, .slice .none 0 0, .slice .none 0 0, .slice .none 0 0, .nilIface, .slice .none 0 0, .bool false, .bool false] 52
section
variable {w : World} {st : Bool} {N : Nat} {dfn u : Nat → Bool} {A D : Nat} {defs : List Nat} {n : Nat} {fa fi : Nat → Value} {K Y : Nat} {us : List Us} {v : Value} {g : Nat → Value} {H : Nat} {da : Option Addr} {cdd : Nat} {wr : World}
theorem Lm5.ofNil (h : Lm4 w st N dfn u A D defs n fa fi K Y us v g wr) (hH : H = wr.heap.size) (hus : us = []) : Lm5 w st N dfn u A D defs n fa fi K Y us v g H da cdd (.slice .none 0 0) (((wr.alloc namesO).alloc (filesO H)).alloc (refsO K N da defs.length cdd (.slice .none 0 0) (H + 1))) := by
  subst hH
  have k : Keep No wr (((wr.alloc namesO).alloc (filesO wr.heap.size)).alloc (refsO K N da defs.length cdd (.slice .none 0 0) (wr.heap.size + 1))) := (((Keep.refl No wr).alloc _).alloc _).alloc _
  refine ⟨h.step k (fun _ h => h.elim), ?_, ?_, heap_alloc_at _ _ _ (by simp), .inl ⟨hus, rfl⟩, h.k1⟩
  · have := heap_alloc_lt (heap_alloc_lt (heap_alloc_at wr namesO wr.heap.size rfl) (filesO wr.heap.size)) (refsO K N da defs.length cdd (.slice .none 0 0) (wr.heap.size + 1))
    unfold World.cell?
    rw [this]
    rfl
  · have := heap_alloc_lt (heap_alloc_at (wr.alloc namesO) (filesO wr.heap.size) (wr.heap.size + 1) (by simp)) (refsO K N da defs.length cdd (.slice .none 0 0) (wr.heap.size + 1))
    unfold World.cell?
    rw [this]
    rfl
theorem Lm5.ofSome (h : Lm4 w st N dfn u A D defs n fa fi K Y us v g wr) (hH : H = wr.heap.size) (hus : us ≠ []) : Lm5 w st N dfn u A D defs n fa fi K Y us v g H da cdd (.slice (some ⟨H + 3, 0, .none⟩) 1 1) (((((wr.alloc namesO).alloc (filesO H)).alloc (refsO K N da defs.length cdd (.slice .none 0 0) (H + 1))).setCell ⟨H + 2, 3, .none⟩ (.slice (some ⟨H + 3, 0, .none⟩) 1 1)).alloc (.cells #[v] 25)) := by
  subst hH
  have k1 : Keep No wr (((wr.alloc namesO).alloc (filesO wr.heap.size)).alloc (refsO K N da defs.length cdd (.slice .none 0 0) (wr.heap.size + 1))) := (((Keep.refl No wr).alloc _).alloc _).alloc _
  have k2 := (k1.mono (T := fun i => i = wr.heap.size + 2) (fun _ _ h => h.elim)).setCell (p := ⟨wr.heap.size + 2, 3, .none⟩) (fun _ => rfl) (.slice (some ⟨wr.heap.size + 3, 0, .none⟩) 1 1)
  have k3 := k2.alloc (.cells #[v] 25)
  have hR : (((wr.alloc namesO).alloc (filesO wr.heap.size)).alloc (refsO K N da defs.length cdd (.slice .none 0 0) (wr.heap.size + 1))).heap[wr.heap.size + 2]? = some (refsO K N da defs.length cdd (.slice .none 0 0) (wr.heap.size + 1)) := heap_alloc_at _ _ _ (by simp)
  have hM := heap_alloc_lt (heap_alloc_lt (heap_alloc_at wr namesO wr.heap.size rfl) (filesO wr.heap.size)) (refsO K N da defs.length cdd (.slice .none 0 0) (wr.heap.size + 1))
  have hL := heap_alloc_lt (heap_alloc_at (wr.alloc namesO) (filesO wr.heap.size) (wr.heap.size + 1) (by simp)) (refsO K N da defs.length cdd (.slice .none 0 0) (wr.heap.size + 1))
  have kk1 := h.k1
  have e : ((((wr.alloc namesO).alloc (filesO wr.heap.size)).alloc (refsO K N da defs.length cdd (.slice .none 0 0) (wr.heap.size + 1))).setCell ⟨wr.heap.size + 2, 3, .none⟩ (.slice (some ⟨wr.heap.size + 3, 0, .none⟩) 1 1)).heap.size = wr.heap.size + 3 := by simp
  refine ⟨h.step k3 (fun i hi => by omega), ?_, ?_, ?_, .inr ⟨wr.heap.size + 3, rfl, ?_, hus, by omega⟩, kk1⟩
  · have h1 : ((((wr.alloc namesO).alloc (filesO wr.heap.size)).alloc (refsO K N da defs.length cdd (.slice .none 0 0) (wr.heap.size + 1))).setCell ⟨wr.heap.size + 2, 3, .none⟩ (.slice (some ⟨wr.heap.size + 3, 0, .none⟩) 1 1)).heap[wr.heap.size]? = some namesO := (Below.heap_setCell _ _ _ _ (by show wr.heap.size ≠ wr.heap.size + 2; omega)).trans hM
    have := heap_alloc_lt h1 (.cells #[v] 25)
    unfold World.cell?
    rw [this]
    rfl
  · have h1 : ((((wr.alloc namesO).alloc (filesO wr.heap.size)).alloc (refsO K N da defs.length cdd (.slice .none 0 0) (wr.heap.size + 1))).setCell ⟨wr.heap.size + 2, 3, .none⟩ (.slice (some ⟨wr.heap.size + 3, 0, .none⟩) 1 1)).heap[wr.heap.size + 1]? = some (filesO wr.heap.size) := (Below.heap_setCell _ _ _ _ (by show wr.heap.size + 1 ≠ wr.heap.size + 2; omega)).trans hL
    have := heap_alloc_lt h1 (.cells #[v] 25)
    unfold World.cell?
    rw [this]
    rfl
  · exact heap_alloc_lt (heap_setCell_same _ _ 3 _ 60 _ hR) _
  · rw [cell_new_at _ _ _ _ e 0]; rfl
end
section
variable {w : World} {st : Bool} {N : Nat} {dfn u : Nat → Bool} {A D : Nat} {defs : List Nat} {n : Nat} {K Y : Nat} {us : List Us} {v : Value} {g : Nat → Value} {H : Nat} {da : Option Addr} {cdd : Nat} {bv : Value} {wr : World}
theorem Lm5.cA (h : Lm5 w st N dfn u A D defs n (valA us n) (valI us n) K Y us v g H da cdd bv wr) {k : Nat} {x : Us} (hk : k < n) (hx : us[k]? = some x) : wr.cell? ⟨A, k, .none⟩ = some (.int .i32 x.a) := by
  have := h.m4.m3.ua.1 k hk
  simpa [valA, hk, hx] using this
theorem Lm5.cI (h : Lm5 w st N dfn u A D defs n (valA us n) (valI us n) K Y us v g H da cdd bv wr) {k : Nat} {x : Us} (hk : k < n) (hx : us[k]? = some x) : wr.cell? ⟨A + 1, k, .none⟩ = some (.int .i32 ((x.p : Int) - 1)) := by
  have := h.m4.m3.ui.1 k hk
  simpa [valI, hk, hx] using this
theorem Lm5.lts (h : Lm5 w st N dfn u A D defs n (valA us n) (valI us n) K Y us v g H da cdd bv wr) : w.heap.size + 3 ≤ A ∧ A + 2 ≤ K ∧ K < H ∧ H + 2 < wr.heap.size := ⟨h.m4.m3.a0, h.m4.k0, h.h0, lt_of_heap h.mR⟩
end
theorem setCells_keep (b : Nat) : ∀ (vs : List Value) (o : Nat) (w : World), Keep (fun i => i = b) w (w.setCells b o vs)
  | [], _, w => Keep.refl _ w
  | x :: r, o, w => ((Keep.refl (fun i => i = b) w).setCell (p := ⟨b, o, .none⟩) (fun _ => rfl) x).trans (setCells_keep b r (o + 1) _)
theorem setCells_arr {b n : Nat} : ∀ (vs : List Value) (o : Nat) (w : World) (v : Nat → Value), Arr w b n v → Arr (w.setCells b o vs) b n (fun i => if i < o then v i else (vs[i - o]?).getD (v i))
  | [], o, w, v, h => h.congr fun i _ => by simp
  | x :: r, o, w, v, h => by
    have := setCells_arr r (o + 1) _ _ (h.set o x)
    refine Arr.congr this fun i _ => ?_
    by_cases e : i = o
    · subst e; simp
    · by_cases l : i < o
      · simp [l, e, show i < o + 1 by omega]
      · rw [if_neg (show ¬ i < o + 1 by omega), if_neg l, if_neg e]
        rw [show i - o = (i - (o + 1)) + 1 by omega, List.getElem?_cons_succ]
theorem copy_use {P : Program} (wc : World) (b s m : Nat) (u : Nat → Bool) (hm : Arr wc s m (fun i => .bool (u i))) (hu : P.underlying 22 = some (.slice 4)) (hs : (P.info? 4).map (·.size) = some 1) (hlt : s < wc.heap.size) (hb : b = wc.heap.size) :
    ∃ W6, (Builtin.copy_ #[22, 22] 3 #[.slice (some ⟨b, 0, .none⟩) m m, .slice (some ⟨s, 0, .none⟩) m m]).run P (wc.alloc (.cells (madeCells #[.bool false] m) 4)) = .ok (.int .i64 m) W6 ∧ Keep (fun i => b ≤ i) wc W6 ∧ Arr W6 b m (fun i => .bool (u i)) ∧ b < W6.heap.size := by
  subst hb
  obtain ⟨cs, hcs⟩ : ∃ cs, cs = (List.range m).map fun i => Value.bool (u i) := ⟨_, rfl⟩
  have hl : cs.length = m := by rw [hcs]; simp
  have ha := arr_new wc m (.bool false) 4
  have k0 : Keep No wc (wc.alloc (.cells (madeCells #[.bool false] m) 4)) := (Keep.refl No wc).alloc _
  have hm' := hm.keep k0 (fun h => h) hlt
  have hget : ∀ (j : Nat) x, cs[j]? = some x → j < m ∧ x = .bool (u j) := fun j x hj => by
    have h1 := (List.getElem?_eq_some_iff.1 hj).1
    rw [hl] at h1
    rw [hcs, List.getElem?_map, List.getElem?_range h1] at hj
    injection hj with hj
    exact ⟨h1, hj.symm⟩
  have hrun := run_copy_cells (P := P) (wc.alloc (.cells (madeCells #[.bool false] m) 4)) 22 22 3 4 wc.heap.size 0 m m ⟨s, 0, .none⟩ m m cs hu hs (by rw [hl]; exact (Nat.min_self m).symm)
    (fun j x hj => by
      have hadd : (⟨s, 0, none⟩ : Addr).add j = ⟨s, j, none⟩ := by unfold Addr.add; split <;> simp_all
      rw [hadd, (hget j x hj).2]
      exact hm'.1 j (hget j x hj).1)
    (fun j hj => by rw [Nat.zero_add, ha.1 j (by omega)]; rfl) (fun j _ => ha.2 _) (fun x hx => by
      obtain ⟨j, hj⟩ := List.getElem?_of_mem hx
      rw [(hget j x hj).2]; rfl)
  rw [hl] at hrun
  refine ⟨_, hrun, (k0.mono fun _ _ h => h.elim).then (setCells_keep wc.heap.size cs 0 _) (fun i _ hi => by omega), (setCells_arr cs 0 _ _ ha).congr fun i hi => ?_, ?_⟩
  · simp only [Nat.not_lt_zero, if_false, Nat.sub_zero]
    rw [hcs, List.getElem?_map, List.getElem?_range hi]
    rfl
  · exact Nat.lt_of_lt_of_le (by simp) (setCells_keep wc.heap.size cs 0 _).size
end Go.Proofs.YbulkatxsFmt.cnt
