/-
  Of LawS2267BCounts: the memory of the call, named.
-/
import Derived.Test.YbulkatxsFmtCntErr
import Derived.RangeFuncBox
namespace Go.Proofs.YbulkatxsFmt.cnt
open Go.ChangeShapes Go.WideShapes Go.ChangeAt Go.RowKit Go
open Go.Extern.Stop Go.Stop Go.Extern

/-- Where things lie, and what does not turn. -/
structure Geo where
  (B s D K M L R g N : Nat)
  st : Bool
  (a0 a1 a2 : Addr)
  da : Option Addr
  cd : Nat
  defs : List Nat
  dfn : Nat → Bool
  bv : Value

structure Geo.Ok (G : Geo) : Prop where
  b3 : 3 ≤ G.B
  l0 : G.a0.block < G.B
  l1 : G.a1.block < G.B
  l2 : G.a2.block < G.B
  n01 : G.a0 ≠ G.a1
  n02 : G.a0 ≠ G.a2
  n12 : G.a1 ≠ G.a2
  s0 : G.B ≤ G.s
  d0 : G.B ≤ G.D
  sK : G.s < G.K
  dK : G.D < G.K
  kM : G.K < G.M
  mL : G.M < G.L
  lR : G.L < G.R
  rg : G.R < G.g
  n8 : G.N ≤ 8
  n0 : 0 < G.N
  dN : ∀ n, n ∈ G.defs ↔ n < G.N ∧ G.dfn n = true
  dn : G.defs.Nodup

/-- What nobody writes. -/
structure Fix (G : Geo) (w : World) : Prop where
  v0 : w.cell? ⟨0, 0, .none⟩ = some (.iface 119 (.pointer (some G.a0)))
  v1 : w.cell? ⟨1, 0, .none⟩ = some (.iface 119 (.pointer (some G.a1)))
  v2 : w.cell? ⟨2, 0, .none⟩ = some (.iface 119 (.pointer (some G.a2)))
  t0 : ∃ s : ByteArray, w.cell? G.a0 = some (.string s)
  t1 : ∃ s : ByteArray, w.cell? G.a1 = some (.string s)
  t2 : ∃ s : ByteArray, w.cell? G.a2 = some (.string s)
  h0 : ∃ c t, w.heap[G.a0.block]? = some (.cells c t (0, 0))
  h1 : ∃ c t, w.heap[G.a1.block]? = some (.cells c t (0, 0))
  h2 : ∃ c t, w.heap[G.a2.block]? = some (.cells c t (0, 0))
  sb : Boxed w G.s 4 (.bool G.st)
  rf : w.heap[G.R]? = some (.cells #[.map .none, .slice (some ⟨G.K, 0, .none⟩) G.N G.N, .slice G.da G.defs.length G.cd, G.bv, .int .u32 0, .int .u32 0, .int .u32 0, .pointer (some ⟨G.L, 0, .none⟩)] 60)
  lg : w.cell? ⟨G.L, 1, .none⟩ = some (.slice (some ⟨G.M, 0, .none⟩) 1 1)
  nm : w.cell? ⟨G.M, 0, .none⟩ = some (.string ⟨#[102]⟩)
  df : ∀ (j n : Nat), G.defs[j]? = some n → G.da = some ⟨G.D, 0, .none⟩ ∧ w.cell? ⟨G.D, j, .none⟩ = some (.int .i32 n)
  sz : G.g + 3 < w.heap.size

/-- The aliases and the counters. -/
structure Mut (G : Geo) (w : World) (used : Nat → Bool) (c u n : Nat) : Prop where
  k0 : ∀ i, i < G.N → w.cell? ⟨G.K, i * 7, .none⟩ = some (.int .u8 0)
  k1 : ∀ i, i < G.N → ∃ s : ByteArray, w.cell? ⟨G.K, i * 7 + 1, .none⟩ = some (.string s)
  k2 : ∀ i, i < G.N → w.cell? ⟨G.K, i * 7 + 2, .none⟩ = some (.int .u32 0)
  k3 : ∀ i, i < G.N → w.cell? ⟨G.K, i * 7 + 3, .none⟩ = some (.int .u32 0)
  k4 : ∀ i, i < G.N → w.cell? ⟨G.K, i * 7 + 4, .none⟩ = some (.int .u32 0)
  k5 : ∀ i, i < G.N → w.cell? ⟨G.K, i * 7 + 5, .none⟩ = some (.bool (G.dfn i))
  k6 : ∀ i, i < G.N → w.cell? ⟨G.K, i * 7 + 6, .none⟩ = some (.bool (used i))
  kf : ∀ j, w.frozen? ⟨G.K, j, .none⟩ = false
  cu : Boxed w G.g 3 (.int .i64 u)
  cc : Boxed w (G.g + 1) 3 (.int .i64 c)
  cn : Boxed w (G.g + 2) 3 (.int .i64 n)
  co : Boxed w (G.g + 3) 4 (.bool true)

/-- Blocks that the fixed part does not hold. -/
def Geo.Free (G : Geo) (i : Nat) : Prop := G.B ≤ i ∧ i ≠ G.s ∧ i ≠ G.D ∧ i ≠ G.M ∧ i ≠ G.L ∧ i ≠ G.R

theorem Keep.boxed {S : Nat → Prop} {w w' : World} {B : Nat} {t : TypeId} {v : Value} (k : Keep S w w') (h : Boxed w B t v) (hn : ¬ S B) : Boxed w' B t v := (k.block B h.lt hn).trans h

theorem lt_of_heap {w : World} {b : Nat} {o : Obj} (h : w.heap[b]? = some o) : b < w.heap.size := (Array.getElem?_eq_some_iff.1 h).1

theorem Fix.keep {G : Geo} {S : Nat → Prop} {w w' : World} (o : G.Ok) (h : Fix G w) (k : Keep S w w') (hS : ∀ i, S i → G.Free i) : Fix G w' := by
  have nb : ∀ i, i < G.B → ¬ S i := fun i hi hs => by have := (hS i hs).1; omega
  have cb : ∀ (a : Addr) v, a.block < G.B → w.cell? a = some v → w'.cell? a = some v := fun a v ha hv => (k.cell (World.block_lt_of_cell? w _ hv) (nb _ ha)).trans hv
  have b3 := o.b3
  obtain ⟨s0, t0⟩ := h.t0
  obtain ⟨s1, t1⟩ := h.t1
  obtain ⟨s2, t2⟩ := h.t2
  obtain ⟨c0, y0, h0⟩ := h.h0
  obtain ⟨c1, y1, h1⟩ := h.h1
  obtain ⟨c2, y2, h2⟩ := h.h2
  refine ⟨cb _ _ (by simp; omega) h.v0, cb _ _ (by simp; omega) h.v1, cb _ _ (by simp; omega) h.v2, ⟨s0, cb _ _ o.l0 t0⟩, ⟨s1, cb _ _ o.l1 t1⟩, ⟨s2, cb _ _ o.l2 t2⟩,
    ⟨c0, y0, (k.block _ (lt_of_heap h0) (nb _ o.l0)).trans h0⟩, ⟨c1, y1, (k.block _ (lt_of_heap h1) (nb _ o.l1)).trans h1⟩, ⟨c2, y2, (k.block _ (lt_of_heap h2) (nb _ o.l2)).trans h2⟩,
    k.boxed h.sb (fun hs => (hS _ hs).2.1 rfl), (k.block _ (lt_of_heap h.rf) (fun hs => (hS _ hs).2.2.2.2.2 rfl)).trans h.rf,
    (k.cell (World.block_lt_of_cell? w _ h.lg) (fun hs => (hS _ hs).2.2.2.2.1 rfl)).trans h.lg, (k.cell (World.block_lt_of_cell? w _ h.nm) (fun hs => (hS _ hs).2.2.2.1 rfl)).trans h.nm,
    fun j n hj => ⟨(h.df j n hj).1, (k.cell (World.block_lt_of_cell? w _ (h.df j n hj).2) (fun hs => (hS _ hs).2.2.1 rfl)).trans (h.df j n hj).2⟩, Nat.lt_of_lt_of_le h.sz k.size⟩

theorem Mut.keep {G : Geo} {S : Nat → Prop} {w w' : World} {used : Nat → Bool} {c u n : Nat} (h : Mut G w used c u n) (k : Keep S w w') (n0 : 0 < G.N) (hS : ∀ i, S i → i ≠ G.K ∧ i ≠ G.g ∧ i ≠ G.g + 1 ∧ i ≠ G.g + 2 ∧ i ≠ G.g + 3) : Mut G w' used c u n := by
  have ck : ∀ (j : Nat) v, w.cell? ⟨G.K, j, .none⟩ = some v → w'.cell? ⟨G.K, j, .none⟩ = some v := fun j v hv => (k.cell (World.block_lt_of_cell? w _ hv) (fun hs => (hS _ hs).1 rfl)).trans hv
  refine ⟨fun i hi => ck _ _ (h.k0 i hi), fun i hi => ?_, fun i hi => ck _ _ (h.k2 i hi), fun i hi => ck _ _ (h.k3 i hi), fun i hi => ck _ _ (h.k4 i hi), fun i hi => ck _ _ (h.k5 i hi), fun i hi => ck _ _ (h.k6 i hi), fun j => ?_,
    k.boxed h.cu (fun hs => (hS _ hs).2.1 rfl), k.boxed h.cc (fun hs => (hS _ hs).2.2.1 rfl), k.boxed h.cn (fun hs => (hS _ hs).2.2.2.1 rfl), k.boxed h.co (fun hs => (hS _ hs).2.2.2.2 rfl)⟩
  · obtain ⟨s, hs⟩ := h.k1 i hi
    exact ⟨s, ck _ _ hs⟩
  · exact (k.frozen (p := ⟨G.K, j, .none⟩) (show G.K < _ from World.block_lt_of_cell? w _ (h.k0 0 n0)) (fun hs => (hS _ hs).1 rfl)).trans (h.kf j)

/-- the law's report, as a value -/
def Geo.rep (G : Geo) : Value := .func (.func 5) #[] #[.pointer (some ⟨G.g + 3, 0, .none⟩), .pointer (some ⟨G.g + 1, 0, .none⟩), .pointer (some ⟨G.s, 0, .none⟩), .pointer (some ⟨G.g, 0, .none⟩), .pointer (some ⟨G.g + 2, 0, .none⟩)]

theorem Keep.set1 {S : Nat → Prop} {w : World} {b : Nat} (u : Value) (hb : S b) : Keep S w (w.setCell ⟨b, 0, .none⟩ u) := (Keep.refl S w).setCell (fun _ => hb) u

theorem Mut.setU {G : Geo} {w : World} {used : Nat → Bool} {c u n : Nat} (h : Mut G w used c u n) (o : G.Ok) : Mut G (w.setCell ⟨G.g, 0, .none⟩ (.int .i64 ((u + 1 : Nat) : Int))) used c (u + 1) n := by
  have e1 := o.rg; have e2 := o.lR; have e3 := o.mL; have e4 := o.kM
  have k : Keep (fun i => i = G.g) w (w.setCell ⟨G.g, 0, .none⟩ (.int .i64 ((u + 1 : Nat) : Int))) := Keep.set1 _ rfl
  have ck : ∀ (j : Nat) v, w.cell? ⟨G.K, j, .none⟩ = some v → (w.setCell ⟨G.g, 0, .none⟩ (.int .i64 ((u + 1 : Nat) : Int))).cell? ⟨G.K, j, .none⟩ = some v := fun j v hv => (k.cell (World.block_lt_of_cell? w _ hv) (by show ¬ G.K = G.g; omega)).trans hv
  exact ⟨fun i hi => ck _ _ (h.k0 i hi), fun i hi => (h.k1 i hi).imp fun s hs => ck _ _ hs, fun i hi => ck _ _ (h.k2 i hi), fun i hi => ck _ _ (h.k3 i hi), fun i hi => ck _ _ (h.k4 i hi), fun i hi => ck _ _ (h.k5 i hi), fun i hi => ck _ _ (h.k6 i hi),
    fun j => by rw [World.frozen?_setCell]; exact h.kf j, h.cu.set _, k.boxed h.cc (by omega), k.boxed h.cn (by omega), k.boxed h.co (by omega)⟩
theorem Mut.setC {G : Geo} {w : World} {used : Nat → Bool} {c u n : Nat} (h : Mut G w used c u n) (o : G.Ok) : Mut G (w.setCell ⟨G.g + 1, 0, .none⟩ (.int .i64 ((c + 1 : Nat) : Int))) used (c + 1) u n := by
  have e1 := o.rg; have e2 := o.lR; have e3 := o.mL; have e4 := o.kM
  have k : Keep (fun i => i = G.g + 1) w (w.setCell ⟨G.g + 1, 0, .none⟩ (.int .i64 ((c + 1 : Nat) : Int))) := Keep.set1 _ rfl
  have ck : ∀ (j : Nat) v, w.cell? ⟨G.K, j, .none⟩ = some v → (w.setCell ⟨G.g + 1, 0, .none⟩ (.int .i64 ((c + 1 : Nat) : Int))).cell? ⟨G.K, j, .none⟩ = some v := fun j v hv => (k.cell (World.block_lt_of_cell? w _ hv) (by show ¬ G.K = G.g + 1; omega)).trans hv
  exact ⟨fun i hi => ck _ _ (h.k0 i hi), fun i hi => (h.k1 i hi).imp fun s hs => ck _ _ hs, fun i hi => ck _ _ (h.k2 i hi), fun i hi => ck _ _ (h.k3 i hi), fun i hi => ck _ _ (h.k4 i hi), fun i hi => ck _ _ (h.k5 i hi), fun i hi => ck _ _ (h.k6 i hi),
    fun j => by rw [World.frozen?_setCell]; exact h.kf j, k.boxed h.cu (by omega), h.cc.set _, k.boxed h.cn (by omega), k.boxed h.co (by omega)⟩
theorem Mut.setN {G : Geo} {w : World} {used : Nat → Bool} {c u n : Nat} (h : Mut G w used c u n) (o : G.Ok) : Mut G (w.setCell ⟨G.g + 2, 0, .none⟩ (.int .i64 ((n + 1 : Nat) : Int))) used c u (n + 1) := by
  have e1 := o.rg; have e2 := o.lR; have e3 := o.mL; have e4 := o.kM
  have k : Keep (fun i => i = G.g + 2) w (w.setCell ⟨G.g + 2, 0, .none⟩ (.int .i64 ((n + 1 : Nat) : Int))) := Keep.set1 _ rfl
  have ck : ∀ (j : Nat) v, w.cell? ⟨G.K, j, .none⟩ = some v → (w.setCell ⟨G.g + 2, 0, .none⟩ (.int .i64 ((n + 1 : Nat) : Int))).cell? ⟨G.K, j, .none⟩ = some v := fun j v hv => (k.cell (World.block_lt_of_cell? w _ hv) (by show ¬ G.K = G.g + 2; omega)).trans hv
  exact ⟨fun i hi => ck _ _ (h.k0 i hi), fun i hi => (h.k1 i hi).imp fun s hs => ck _ _ hs, fun i hi => ck _ _ (h.k2 i hi), fun i hi => ck _ _ (h.k3 i hi), fun i hi => ck _ _ (h.k4 i hi), fun i hi => ck _ _ (h.k5 i hi), fun i hi => ck _ _ (h.k6 i hi),
    fun j => by rw [World.frozen?_setCell]; exact h.kf j, k.boxed h.cu (by omega), k.boxed h.cc (by omega), h.cn.set _, k.boxed h.co (by omega)⟩
/-- 'alias.used = true' -/
theorem Mut.setUsed {G : Geo} {w : World} {used : Nat → Bool} {c u n : Nat} (h : Mut G w used c u n) (o : G.Ok) (a : Nat) : Mut G (w.setCell ⟨G.K, a * 7 + 6, .none⟩ (.bool true)) (fun i => used i || i == a) c u n := by
  have e1 := o.rg; have e2 := o.lR; have e3 := o.mL; have e4 := o.kM
  have k : Keep (fun i => i = G.K) w (w.setCell ⟨G.K, a * 7 + 6, .none⟩ (.bool true)) := (Keep.refl (fun i => i = G.K) w).setCell (p := ⟨G.K, a * 7 + 6, .none⟩) (fun _ => rfl) _
  have ck : ∀ (j : Nat) v, j ≠ a * 7 + 6 → w.cell? ⟨G.K, j, .none⟩ = some v → (w.setCell ⟨G.K, a * 7 + 6, .none⟩ (.bool true)).cell? ⟨G.K, j, .none⟩ = some v := fun j v hj hv => by
    rw [World.cell?_setCell_other _ _ _ _ (by simp <;> omega)]; exact hv
  refine ⟨fun i hi => ck _ _ (by omega) (h.k0 i hi), fun i hi => (h.k1 i hi).imp fun s hs => ck _ _ (by omega) hs, fun i hi => ck _ _ (by omega) (h.k2 i hi), fun i hi => ck _ _ (by omega) (h.k3 i hi), fun i hi => ck _ _ (by omega) (h.k4 i hi), fun i hi => ck _ _ (by omega) (h.k5 i hi), fun i hi => ?_,
    fun j => by rw [World.frozen?_setCell]; exact h.kf j, k.boxed h.cu (by omega), k.boxed h.cc (by omega), k.boxed h.cn (by omega), k.boxed h.co (by omega)⟩
  by_cases e : i = a
  · subst e
    rw [World.cell?_setCell_same _ _ _ (h.k6 i hi)]
    simp
  · rw [World.cell?_setCell_other _ _ _ _ (by simp <;> omega), h.k6 i hi]
    simp [e]
end Go.Proofs.YbulkatxsFmt.cnt
