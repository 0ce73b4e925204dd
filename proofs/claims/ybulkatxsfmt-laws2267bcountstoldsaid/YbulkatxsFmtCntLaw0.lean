/-
  Of LawS2267BCounts: the law's memory.
-/
import Derived.Test.YbulkatxsFmtCntArr
namespace Go.Proofs.YbulkatxsFmt.cnt
open Go.ChangeShapes Go.WideShapes Go.ChangeAt Go.RowKit Go
open Go.Extern.Stop Go.Stop Go.Extern

/-- a slice of bools, as it came in -/
def Bls (w : World) (a : Option Addr) (n : Nat) (f : Nat → Bool) : Prop := n = 0 ∨ ∃ b o, a = some ⟨b, o, .none⟩ ∧ ∀ k, k < n → w.cell? ⟨b, o + k, .none⟩ = some (.bool (f k))

structure Inp where
  (a i : Nat)
  t : Bool
/-- the uses, as they came in -/
def Uss (w : World) (a : Option Addr) (l : List Inp) : Prop := l = [] ∨ ∃ b o, a = some ⟨b, o, .none⟩ ∧ ∀ k x, l[k]? = some x → x.a < 256 ∧ x.i < 256 ∧ w.cell? ⟨b, o + k * 3, .none⟩ = some (.int .u8 x.a) ∧ w.cell? ⟨b, o + k * 3 + 1, .none⟩ = some (.int .u8 x.i) ∧ w.cell? ⟨b, o + k * 3 + 2, .none⟩ = some (.bool x.t)

def pad (l : Nat) (f : Nat → Bool) (i : Nat) : Bool := decide (i < l) && f i

theorem Arr.fillT {wr : World} {b N k : Nat} {f : Nat → Bool} (h : Arr wr b N (fun i => .bool (decide (i < k) && f i))) : Arr (wr.setCell ⟨b, k, .none⟩ (.bool (f k))) b N (fun i => .bool (decide (i < k + 1) && f i)) :=
  (h.set k _).congr fun i _ => by
    by_cases e : i = k
    · subst e; simp
    · have : (i < k + 1) ↔ (i < k) := by omega
      simp [e, this]
theorem Arr.fillF {wr : World} {b N k : Nat} {f : Nat → Bool} (h : Arr wr b N (fun i => .bool (decide (i < k) && f i))) (hf : f k = false) : Arr wr b N (fun i => .bool (decide (i < k + 1) && f i)) :=
  h.congr fun i _ => by
    by_cases e : i = k
    · subst e; simp [hf]
    · have : (i < k + 1) ↔ (i < k) := by omega
      simp [this]

/-- the law's memory, first part -/
structure Lm1 (w : World) (st : Bool) (N : Nat) (d u : Nat → Bool) (wr : World) : Prop where
  keep : Keep No w wr
  sb : Boxed wr w.heap.size 4 (.bool st)
  da : Arr wr (w.heap.size + 1) N (fun i => .bool (d i))
  ua : Arr wr (w.heap.size + 2) N (fun i => .bool (u i))
  sz : w.heap.size + 3 ≤ wr.heap.size
theorem Lm1.step {w : World} {st : Bool} {N : Nat} {d u : Nat → Bool} {wr wr' : World} {T : Nat → Prop} (h : Lm1 w st N d u wr) (k : Keep T wr wr') (hT : ∀ i, T i → w.heap.size + 3 ≤ i) : Lm1 w st N d u wr' := by
  have sz := h.sz
  have f : ∀ b, b < w.heap.size + 3 → ¬ T b := fun b hb ht => by have := hT b ht; omega
  exact ⟨h.keep.then k (fun i hi ht => absurd ht (f i (by omega))), k.boxed h.sb (f _ (by omega)), h.da.keep k (f _ (by omega)) (by omega), h.ua.keep k (f _ (by omega)) (by omega), Nat.le_trans h.sz k.size⟩
theorem Lm1.setD {w : World} {st : Bool} {N : Nat} {d u d' : Nat → Bool} {wr : World} (h : Lm1 w st N d u wr) (j : Nat) (x : Bool) (hd : Arr (wr.setCell ⟨w.heap.size + 1, j, .none⟩ (.bool x)) (w.heap.size + 1) N (fun i => .bool (d' i))) : Lm1 w st N d' u (wr.setCell ⟨w.heap.size + 1, j, .none⟩ (.bool x)) := by
  have sz := h.sz
  have k : Keep (fun i => i = w.heap.size + 1) wr (wr.setCell ⟨w.heap.size + 1, j, .none⟩ (.bool x)) := (Keep.refl (fun i => i = w.heap.size + 1) wr).setCell (p := ⟨w.heap.size + 1, j, .none⟩) (fun _ => rfl) _
  exact ⟨h.keep.then k (fun i hi ht => by omega), k.boxed h.sb (by omega), hd, h.ua.keep k (by omega) (by omega), Nat.le_trans h.sz k.size⟩
theorem Lm1.setU {w : World} {st : Bool} {N : Nat} {d u u' : Nat → Bool} {wr : World} (h : Lm1 w st N d u wr) (j : Nat) (x : Bool) (hd : Arr (wr.setCell ⟨w.heap.size + 2, j, .none⟩ (.bool x)) (w.heap.size + 2) N (fun i => .bool (u' i))) : Lm1 w st N d u' (wr.setCell ⟨w.heap.size + 2, j, .none⟩ (.bool x)) := by
  have sz := h.sz
  have k : Keep (fun i => i = w.heap.size + 2) wr (wr.setCell ⟨w.heap.size + 2, j, .none⟩ (.bool x)) := (Keep.refl (fun i => i = w.heap.size + 2) wr).setCell (p := ⟨w.heap.size + 2, j, .none⟩) (fun _ => rfl) _
  exact ⟨h.keep.then k (fun i hi ht => by omega), k.boxed h.sb (by omega), h.da.keep k (by omega) (by omega), hd, Nat.le_trans h.sz k.size⟩

/-- a use, as the law reads it -/
def mkU (N : Nat) (defs : List Nat) (k : Nat) (x : Inp) : Us := ⟨x.a % N, if x.t = false ∧ defs ≠ [] then (defs[x.i % defs.length]?).getD 0 + 1 else 0, k + 1⟩
def mkUs (N : Nat) (defs : List Nat) (l : List Inp) : List Us := l.mapIdx (mkU N defs)
theorem mkUs_length (N : Nat) (defs : List Nat) (l : List Inp) : (mkUs N defs l).length = l.length := by simp [mkUs]
theorem mkUs_get {N : Nat} {defs : List Nat} {l : List Inp} {k : Nat} {x : Inp} (h : l[k]? = some x) : (mkUs N defs l)[k]? = some (mkU N defs k x) := by simp [mkUs, List.getElem?_mapIdx, h]

def valA (us : List Us) (j i : Nat) : Value := if i < j then .int .i32 ((us[i]?.map Us.a).getD 0) else .int .i32 0
def valI (us : List Us) (j i : Nat) : Value := if i < j then .int .i32 (((us[i]?.map Us.p).getD 0 : Nat) - 1) else .int .i32 0
def useK (use0 : Nat → Bool) (us : List Us) (i : Nat) : Bool := use0 i || us.any fun u => u.p == 0 && u.a == i

theorem bytesOf_append : ∀ (l : List Us) (m : List Us), bytesOf (l ++ m) = bytesOf l ++ bytesOf m
  | [], _ => rfl
  | u :: l, m => by simp [bytesOf, bytesOf_append l m]
theorem bytesOf_le : ∀ (l : List Us), (∀ u ∈ l, u.Ok) → (bytesOf l).length ≤ 40 * l.length
  | [], _ => by simp [bytesOf]
  | u :: l, h => by
    have h1 := bytesOf_le l fun x hx => h x (by simp [hx])
    have h2 := h u (by simp)
    have e1 := Lib.uvarint_length64 (x := u.a) (by have := h2.1; omega)
    have e2 := Lib.uvarint_length64 (x := u.p) (by have := h2.2.1; omega)
    have e3 := Lib.uvarint_length64 (x := u.c) (by have := h2.2.2; omega)
    have e4 := Lib.uvarint_length64 (x := 0) (by omega)
    simp only [bytesOf, List.length_append, List.length_cons]
    omega

/-- the law's memory, second part -/
structure Lm3 (w : World) (st : Bool) (N : Nat) (dfn u : Nat → Bool) (A D : Nat) (defs : List Nat) (n : Nat) (fa fi : Nat → Value) (wr : World) : Prop where
  m1 : Lm1 w st N dfn u wr
  df : ∀ (i d : Nat), defs[i]? = some d → wr.cell? ⟨D, i, .none⟩ = some (.int .i32 d)
  ua : Arr wr A n fa
  ui : Arr wr (A + 1) n fi
  a0 : w.heap.size + 3 ≤ A
  d0 : defs ≠ [] → w.heap.size + 3 ≤ D ∧ D < A
  sz : A + 2 ≤ wr.heap.size

section
variable {w : World} {st : Bool} {N : Nat} {dfn u : Nat → Bool} {A D : Nat} {defs : List Nat} {n : Nat} {fa fi : Nat → Value} {wr wr' : World}
theorem ne_nil_of {defs : List Nat} {i d : Nat} (h : defs[i]? = some d) : defs ≠ [] := fun e => by rw [e] at h; simp at h
theorem Lm3.step {T : Nat → Prop} (h : Lm3 w st N dfn u A D defs n fa fi wr) (k : Keep T wr wr') (hT : ∀ i, T i → A + 2 ≤ i) : Lm3 w st N dfn u A D defs n fa fi wr' := by
  have a0 := h.a0
  have sz := h.sz
  have f : ∀ b, b < A + 2 → ¬ T b := fun b hb ht => by have := hT b ht; omega
  exact ⟨h.m1.step k (fun i hi => by have := hT i hi; omega), fun i d hi => (k.cell (World.block_lt_of_cell? wr _ (h.df i d hi)) (f _ (by have := (h.d0 (ne_nil_of hi)).2; show D < _; omega))).trans (h.df i d hi), h.ua.keep k (f _ (by omega)) (by omega), h.ui.keep k (f _ (by omega)) (by omega), a0, h.d0, Nat.le_trans sz k.size⟩
theorem Lm3.setU {u' : Nat → Bool} (h : Lm3 w st N dfn u A D defs n fa fi wr) (j : Nat) (x : Bool) (hd : Arr (wr.setCell ⟨w.heap.size + 2, j, .none⟩ (.bool x)) (w.heap.size + 2) N (fun i => .bool (u' i))) : Lm3 w st N dfn u' A D defs n fa fi (wr.setCell ⟨w.heap.size + 2, j, .none⟩ (.bool x)) := by
  have a0 := h.a0
  have sz := h.sz
  have k : Keep (fun i => i = w.heap.size + 2) wr (wr.setCell ⟨w.heap.size + 2, j, .none⟩ (.bool x)) := (Keep.refl (fun i => i = w.heap.size + 2) wr).setCell (p := ⟨w.heap.size + 2, j, .none⟩) (fun _ => rfl) _
  exact ⟨h.m1.setU j x hd, fun i d hi => (k.cell (World.block_lt_of_cell? wr _ (h.df i d hi)) (by have := (h.d0 (ne_nil_of hi)).1; show ¬ D = _; omega)).trans (h.df i d hi), h.ua.keep k (by omega) (by omega), h.ui.keep k (by omega) (by omega), a0, h.d0, Nat.le_trans sz k.size⟩
theorem Lm3.setA (h : Lm3 w st N dfn u A D defs n fa fi wr) (j : Nat) (x : Value) : Lm3 w st N dfn u A D defs n (fun i => if i = j then x else fa i) fi (wr.setCell ⟨A, j, .none⟩ x) := by
  have a0 := h.a0
  have sz := h.sz
  have k : Keep (fun i => i = A) wr (wr.setCell ⟨A, j, .none⟩ x) := (Keep.refl (fun i => i = A) wr).setCell (p := ⟨A, j, .none⟩) (fun _ => rfl) _
  exact ⟨h.m1.step k (fun i hi => by omega), fun i d hi => (k.cell (World.block_lt_of_cell? wr _ (h.df i d hi)) (by have := (h.d0 (ne_nil_of hi)).2; show ¬ D = _; omega)).trans (h.df i d hi), h.ua.set j x, h.ui.keep k (by omega) (by omega), a0, h.d0, Nat.le_trans sz k.size⟩
theorem Lm3.setI (h : Lm3 w st N dfn u A D defs n fa fi wr) (j : Nat) (x : Value) : Lm3 w st N dfn u A D defs n fa (fun i => if i = j then x else fi i) (wr.setCell ⟨A + 1, j, .none⟩ x) := by
  have a0 := h.a0
  have sz := h.sz
  have k : Keep (fun i => i = A + 1) wr (wr.setCell ⟨A + 1, j, .none⟩ x) := (Keep.refl (fun i => i = A + 1) wr).setCell (p := ⟨A + 1, j, .none⟩) (fun _ => rfl) _
  exact ⟨h.m1.step k (fun i hi => by omega), fun i d hi => (k.cell (World.block_lt_of_cell? wr _ (h.df i d hi)) (by have := (h.d0 (ne_nil_of hi)).2; show ¬ D = _; omega)).trans (h.df i d hi), h.ua.keep k (by omega) (by omega), h.ui.set j x, a0, h.d0, Nat.le_trans sz k.size⟩
end

theorem valA_succ {us : List Us} {j : Nat} {u : Us} (h : us[j]? = some u) (i : Nat) : (if i = j then Value.int .i32 u.a else valA us j i) = valA us (j + 1) i := by
  unfold valA
  by_cases e : i = j
  · subst e
    simp [h]
  · have : (i < j + 1) ↔ (i < j) := by omega
    simp [e, this]
theorem valI_succ {us : List Us} {j : Nat} {u : Us} (h : us[j]? = some u) (i : Nat) : (if i = j then Value.int .i32 ((u.p : Int) - 1) else valI us j i) = valI us (j + 1) i := by
  unfold valI
  by_cases e : i = j
  · subst e
    simp [h]
  · have : (i < j + 1) ↔ (i < j) := by omega
    simp [e, this]
theorem useK_held {use0 : Nat → Bool} {us : List Us} {j : Nat} {u : Us} (h : us[j]? = some u) (hp : u.p ≠ 0) : useK use0 (us.take (j + 1)) = useK use0 (us.take j) := by
  funext i
  unfold useK
  rw [List.take_add_one, h, Option.toList_some, List.any_append]
  have e : (u.p == 0) = false := by simpa using hp
  simp [e]
theorem useK_top {use0 : Nat → Bool} {us : List Us} {j : Nat} {u : Us} (h : us[j]? = some u) (hp : u.p = 0) (i : Nat) : (if i = u.a then true else useK use0 (us.take j) i) = useK use0 (us.take (j + 1)) i := by
  unfold useK
  rw [List.take_add_one, h, Option.toList_some, List.any_append]
  by_cases e : i = u.a
  · simp [hp, e]
  · have : (u.a == i) = false := by simpa using fun x => e x.symm
    simp [hp, e, this]

theorem row_form {w : World} {base : Nat} {v : Value} {defs : List Nat} (hr : w.ownsRow base 21 1 v defs.length (defs.map fun n : Nat => Value.int .i32 n)) :
    ∃ da cdd D, v = .slice da defs.length cdd ∧ (defs ≠ [] → da = some ⟨D, 0, .none⟩ ∧ base ≤ D ∧ D < w.heap.size) ∧ ∀ (i d : Nat), defs[i]? = some d → w.cell? ⟨D, i, .none⟩ = some (.int .i32 d) := by
  rcases hr.2 with ⟨h, h'⟩ | ⟨g, cap, cur, h, _⟩
  · have e : defs = [] := List.length_eq_zero_iff.1 h'
    subst e
    exact ⟨.none, 0, 0, h, fun h => absurd rfl h, fun i d hi => by simp at hi⟩
  · subst h
    refine ⟨some ⟨g, 0, .none⟩, cap, g, rfl, fun _ => ⟨rfl, hr.lt g rfl⟩, fun i d hi => ?_⟩
    have hlt := (List.getElem?_eq_some_iff.1 hi).1
    rw [hr.cellAt i (by omega), List.getElem?_map, hi]
    rfl

theorem app_any (B n x : Nat) (xi : Int) (hxi : xi = x) (hx : x < 16384) (sv : Value) (xs : List Value) (w : World) (hown : w.ownsRow B 5 1 sv n xs) (hBw : B ≤ w.heap.size) (hlim : n ≤ 30000) :
    Calls Ybaf.prog 4 #[sv, .int .u64 xi] w fun e w' => ∃ v', e = .returned v' ∧ w'.ownsRow B 5 1 v' (n + (Lib.uvarint x).length) (xs ++ Lib.byteCells (Lib.uvarint x)) ∧ Keep (fun i => B ≤ i) w w' := by
  subst hxi
  refine (Ybaf.binary_AppendUvarint B n x (by omega) sv xs w hown hBw (by omega)).mono ?_
  rintro e w' ⟨v', rfl, h1, h2⟩
  exact ⟨v', rfl, h1, h2.os, h2.tape, h2.output, h2.size, fun i _ hn => h2.block i (by omega)⟩

end Go.Proofs.YbulkatxsFmt.cnt
