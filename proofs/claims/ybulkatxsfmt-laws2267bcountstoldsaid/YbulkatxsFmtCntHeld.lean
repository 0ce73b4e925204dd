/-
  Of LawS2267BCounts: what problems collects of the uses.
-/
import Derived.Test.YbulkatxsFmtCntRange
namespace Go.Proofs.YbulkatxsFmt.cnt
open Go.ChangeShapes Go.WideShapes Go.ChangeAt Go.RowKit Go
open Go.Extern.Stop Go.Stop Go.Extern

def heldOf (us : List Us) : List Hu := (us.filter fun u => u.p != 0).map fun u => ⟨u.a, u.p - 1, u.c⟩
def topCnt (dfn : Nat → Bool) (us : List Us) : Nat := (us.filter fun u => u.p == 0 && !dfn u.a).length
def five (h : Hu) : List Value := [.int .i32 h.a, .int .i32 h.i, .int .u32 0, .int .u32 0, .int .u32 h.c]
def cellsOf (L : List Hu) : List Value := L.flatMap five

theorem heldOf_top {pre : List Us} {u : Us} (h : u.p = 0) : heldOf (pre ++ [u]) = heldOf pre := by simp [heldOf, List.filter_append, h]
theorem heldOf_held {pre : List Us} {u : Us} (h : u.p ≠ 0) : heldOf (pre ++ [u]) = heldOf pre ++ [⟨u.a, u.p - 1, u.c⟩] := by simp [heldOf, List.filter_append, h]
theorem topCnt_held {dfn : Nat → Bool} {pre : List Us} {u : Us} (h : u.p ≠ 0) : topCnt dfn (pre ++ [u]) = topCnt dfn pre := by simp [topCnt, List.filter_append, h]
theorem topCnt_def {dfn : Nat → Bool} {pre : List Us} {u : Us} (h : dfn u.a = true) : topCnt dfn (pre ++ [u]) = topCnt dfn pre := by simp [topCnt, List.filter_append, h]
theorem topCnt_undef {dfn : Nat → Bool} {pre : List Us} {u : Us} (h : u.p = 0) (h' : dfn u.a = false) : topCnt dfn (pre ++ [u]) = topCnt dfn pre + 1 := by simp [topCnt, List.filter_append, h, h']
theorem topCnt_le {dfn : Nat → Bool} (us : List Us) : topCnt dfn us ≤ us.length := List.length_filter_le _ _
theorem heldOf_le (us : List Us) : (heldOf us).length ≤ us.length := by
  rw [heldOf, List.length_map]; exact List.length_filter_le _ _
theorem cellsOf_snoc (L : List Hu) (h : Hu) : cellsOf (L ++ [h]) = cellsOf L ++ five h := by simp [cellsOf]
theorem cellsOf_get : ∀ (L : List Hu) (j i : Nat) (h : Hu), L[j]? = some h → i < 5 → (cellsOf L)[j * 5 + i]? = (five h)[i]?
  | [], _, _, _, hj, _ => by simp at hj
  | x :: L, 0, i, h, hj, hi => by
    simp at hj
    subst hj
    show (five x ++ cellsOf L)[0 * 5 + i]? = _
    rw [Nat.zero_mul, Nat.zero_add, List.getElem?_append_left (by show i < 5; exact hi)]
  | x :: L, j + 1, i, h, hj, hi => by
    show (five x ++ cellsOf L)[(j + 1) * 5 + i]? = _
    rw [List.getElem?_append_right (by show 5 ≤ _; omega), show (j + 1) * 5 + i - (five x).length = j * 5 + i by show _ - 5 = _; omega]
    exact cellsOf_get L j i h (by simpa using hj) hi

def clo (B : Nat) : Value := .func (.func 10) #[] #[.pointer (some ⟨B, 0, .none⟩), .pointer (some ⟨B + 2, 0, .none⟩), .pointer (some ⟨B + 1, 0, .none⟩)]

structure Col (G : Geo) (w : World) (used : Nat → Bool) (pre : List Us) (W : World) : Prop where
  keep : Keep (fun i => i = G.g) w W
  mt : Mut G W used 0 (topCnt G.dfn pre) 0
  b3 : Boxed W w.heap.size 39 (.pointer (some ⟨G.R, 0, .none⟩))
  b4 : Boxed W (w.heap.size + 1) 4 (.bool G.st)
  b5 : Boxed W (w.heap.size + 2) 42 G.rep
  b6 : Boxed W (w.heap.size + 3) 80 (clo w.heap.size)
  b7 : ∃ v, Boxed W (w.heap.size + 4) 82 v ∧ W.ownsRow (w.heap.size + 10) 74 5 v (heldOf pre).length (cellsOf (heldOf pre)) ∧ (heldOf pre = [] → v = .slice .none 0 0)

def Tb (G : Geo) (B : Nat) (i : Nat) : Prop := i = B + 4 ∨ i = G.g ∨ B + 10 ≤ i

section
variable {G : Geo} {w : World} {used : Nat → Bool} {pre : List Us} {W W' : World}

theorem Col.keepS {S : Nat → Prop} (h : Col G w used pre W) (o : G.Ok) (sz : G.g + 3 < w.heap.size) (k : Keep S W W') (hS : ∀ i, S i → w.heap.size + 6 ≤ i ∧ i < w.heap.size + 10) : Col G w used pre W' := by
  have e1 := o.rg; have e2 := o.lR; have e3 := o.mL; have e4 := o.kM
  have f : ∀ b, b < w.heap.size + 6 ∨ w.heap.size + 10 ≤ b → ¬ S b := fun b hb hs => by have := hS b hs; omega
  refine ⟨h.keep.then k (fun i hi hs => absurd hs (f i (by omega))), h.mt.keep k o.n0 (fun i hs => by have := hS i hs; omega), k.boxed h.b3 (f _ (by omega)), k.boxed h.b4 (f _ (by omega)), k.boxed h.b5 (f _ (by omega)), k.boxed h.b6 (f _ (by omega)), ?_⟩
  obtain ⟨v, hv, hr, hn⟩ := h.b7
  exact ⟨v, k.boxed hv (f _ (by omega)), ownsRow_keep hr k (fun g hg => f g (.inr (hr.lt g hg).1)), hn⟩
theorem Col.four (h : Col G w used pre W) (o : G.Ok) (sz : G.g + 3 < w.heap.size) (k : Keep (Four (w.heap.size + 6)) W W') : Col G w used pre W' := h.keepS o sz k (fun i hi => ⟨hi.1, by have := hi.2; omega⟩)
theorem Col.no (h : Col G w used pre W) (o : G.Ok) (sz : G.g + 3 < w.heap.size) (k : Keep No W W') : Col G w used pre W' := h.keepS o sz k (fun _ hi => hi.elim)
theorem Col.skipU {u : Us} (h : Col G w used pre W) (hp : u.p = 0) (hd : G.dfn u.a = true) : Col G w used (pre ++ [u]) W := by
  refine ⟨h.keep, by rw [topCnt_def hd]; exact h.mt, h.b3, h.b4, h.b5, h.b6, by rw [heldOf_top hp]; exact h.b7⟩
theorem Col.told {u : Us} (h : Col G w used pre W) (sz : G.g + 3 < w.heap.size) (hp : u.p = 0) (hd : G.dfn u.a = false) (k : Keep (fun i => i = G.g) W W') (m : Mut G W' used 0 (topCnt G.dfn pre + 1) 0) : Col G w used (pre ++ [u]) W' := by
  refine ⟨h.keep.trans k, by rw [topCnt_undef hp hd]; exact m, k.boxed h.b3 (by omega), k.boxed h.b4 (by omega), k.boxed h.b5 (by omega), k.boxed h.b6 (by omega), ?_⟩
  obtain ⟨v, hv, hr, hn⟩ := h.b7
  rw [heldOf_top hp]
  exact ⟨v, k.boxed hv (by omega), ownsRow_keep hr k (fun g hg e => by have := (hr.lt g hg).1; omega), hn⟩
theorem Col.push {u : Us} {v v' : Value} {w1 : World} (h : Col G w used pre W) (o : G.Ok) (sz : G.g + 3 < w.heap.size) (hp : u.p ≠ 0) (hv : Boxed W (w.heap.size + 4) 82 v) (hr : W.ownsRow (w.heap.size + 10) 74 5 v (heldOf pre).length (cellsOf (heldOf pre)))
    (hg : W.grownBy w1 v.ownBlock) (hr' : w1.ownsRow (w.heap.size + 10) 74 5 v' ((heldOf pre).length + 1) (cellsOf (heldOf pre) ++ five ⟨u.a, u.p - 1, u.c⟩)) :
    Col G w used (pre ++ [u]) (w1.setCell ⟨w.heap.size + 4, 0, .none⟩ v') ∧ Keep (Tb G w.heap.size) W (w1.setCell ⟨w.heap.size + 4, 0, .none⟩ v') := by
  have e1 := o.rg; have e2 := o.lR; have e3 := o.mL; have e4 := o.kM
  have k1 : Keep (fun i => w.heap.size + 10 ≤ i) W w1 := (Keep.grown hg).mono fun i _ hi => (hr.lt i hi.symm).1
  have k2 : Keep (fun i => i = w.heap.size + 4) w1 (w1.setCell ⟨w.heap.size + 4, 0, .none⟩ v') := Keep.set1 _ rfl
  have k3 : Keep (fun i => i = w.heap.size + 4 ∨ w.heap.size + 10 ≤ i) W (w1.setCell ⟨w.heap.size + 4, 0, .none⟩ v') := (k1.mono fun _ _ h => .inr h).then k2 (fun _ _ h => .inl h)
  refine ⟨⟨h.keep.then k3 (fun i hi ht => by rcases ht with ht | ht <;> omega), ?_, k3.boxed h.b3 (by omega), k3.boxed h.b4 (by omega), k3.boxed h.b5 (by omega), k3.boxed h.b6 (by omega), v', ?_, ?_, fun e => by rw [heldOf_held hp] at e; simp at e⟩, k3.mono fun _ _ h => h.elim .inl (fun h => .inr (.inr h))⟩
  · rw [topCnt_held hp]
    exact h.mt.keep k3 o.n0 (fun i ht => by rcases ht with ht | ht <;> omega)
  · exact (k1.boxed hv (by omega)).set v'
  · rw [heldOf_held hp, List.length_append, cellsOf_snoc]
    exact ownsRow_keep hr' k2 (fun g hg e => by have := (hr'.lt g hg).1; omega)
end
end Go.Proofs.YbulkatxsFmt.cnt
