/-
  Of LawS2262ATwinFlag: what the law.s own blocks hold.
-/
import Derived.Test.YbulkatvaFmtTwinCalls
import Derived.Laws.MakeOwn
namespace Go.Proofs.YbulkatvaFmt.twin
open Go.ChangeShapes Go.WideShapes Go.ChangeAt Go.RowKit Go
open Go.Extern.Stop Go.Stop Go.Extern

set_option maxHeartbeats 1000000 in
set_option maxRecDepth 100000 in
theorem name_any (p : Int) (w : World) : Calls Ybaf.prog 6 #[.int .i64 p] w fun e w' => ∃ s : ByteArray, e = .returned (.string s) ∧ w = w' := by
  by_cases h0 : (p == 0) = true
  · go_enter Ybaf.func6, Ybaf.ntmps6
    go_wp2
    go_ret
    exact ⟨_, rfl, rfl⟩
  · by_cases h1 : (p == 1) = true
    · have h0' : (p == 0) = false := by simpa using h0
      clear h0
      go_enter Ybaf.func6, Ybaf.ntmps6
      go_wp2
      go_ret
      exact ⟨_, rfl, rfl⟩
    · by_cases h2 : (p == 2) = true
      · have h0' : (p == 0) = false := by simpa using h0
        have h1' : (p == 1) = false := by simpa using h1
        clear h0 h1
        go_enter Ybaf.func6, Ybaf.ntmps6
        go_wp2
        go_ret
        exact ⟨_, rfl, rfl⟩
      · have h0' : (p == 0) = false := by simpa using h0
        have h1' : (p == 1) = false := by simpa using h1
        have h2' : (p == 2) = false := by simpa using h2
        clear h0 h1 h2
        go_enter Ybaf.func6, Ybaf.ntmps6
        go_wp2
        go_ret
        exact ⟨_, rfl, rfl⟩

theorem info9 : (Ybaf.prog.info? 9).map (fun i => (i.zero, i.size, i.bytes)) = some (some (.string ⟨#[]⟩), 1, 16) := by kernel_rfl
theorem info3 : (Ybaf.prog.info? 3).map (fun i => (i.zero, i.size, i.bytes)) = some (some (.int .i64 0), 1, 8) := by kernel_rfl
theorem info31 : (Ybaf.prog.info? 31).map (fun i => (i.zero, i.size, i.bytes)) = some (some (.agg #[.int .i64 0, .int .i64 0, .slice .none 0 0]), 3, 40) := by kernel_rfl
theorem makeNames (m : Nat) (hm : m ≤ 3) (w : World) : (Instr.makeSlice 25 (.int .i64 ((m : Int) + 1)) (.int .i64 ((m : Int) + 1))).run Ybaf.prog w = .ok (.slice (some ⟨w.heap.size, 0, .none⟩) (m + 1) (m + 1)) (w.alloc (.cells (madeCells #[.string ⟨#[]⟩] (m + 1)) 9)) := by
  obtain ⟨i, hi, hz, hs, hb⟩ := info_parts info9
  have h := run_make (P := Ybaf.prog) w 25 9 i _ Ybaf.underlying25 hi hz .i64 .i64 ((m : Int) + 1) ((m : Int) + 1) (by omega) (by omega) (by rw [hb]; omega) (by omega)
  rw [hs, show ((m : Int) + 1).toNat = m + 1 by omega, Nat.mul_one] at h
  exact h
theorem makeEvents (n : Nat) (hn : n ≤ 1024) (w : World) : (Instr.makeSlice 27 (.int .i64 n) (.int .i64 n)).run Ybaf.prog w = .ok (.slice (some ⟨w.heap.size, 0, .none⟩) n n) (w.alloc (.cells (madeCells #[.int .i64 0, .int .i64 0, .slice .none 0 0] (n * 3)) 31)) := by
  obtain ⟨i, hi, hz, hs, hb⟩ := info_parts info31
  have h := run_make (P := Ybaf.prog) w 27 31 i _ Ybaf.underlying27 hi hz .i64 .i64 n n (by omega) (by omega) (by rw [hb]; omega) (by omega)
  rw [hs, Int.toNat_natCast] at h
  exact h
theorem makeInts (n : Nat) (hn : n ≤ 1024) (w : World) : (Instr.makeSlice 23 (.int .i64 n) (.int .i64 n)).run Ybaf.prog w = .ok (.slice (some ⟨w.heap.size, 0, .none⟩) n n) (w.alloc (.cells (madeCells #[.int .i64 0] n) 3)) := by
  obtain ⟨i, hi, hz, hs, hb⟩ := info_parts info3
  have h := run_make (P := Ybaf.prog) w 23 3 i _ Ybaf.underlying23 hi hz .i64 .i64 n n (by omega) (by omega) (by rw [hb]; omega) (by omega)
  rw [hs, Int.toNat_natCast, Nat.mul_one] at h
  exact h

/-! ### What the blocks of the call hold -/
def isStr (v : Value) : Prop := ∃ s : ByteArray, v = .string s
def isInt (v : Value) : Prop := ∃ l : Int, v = .int .i64 l
def isProc (m : Nat) (v : Value) : Prop := ∃ p : Nat, v = .int .i64 p ∧ p < m
def isNil (v : Value) : Prop := v = .slice .none 0 0
def isTw (n : Nat) (v : Value) : Prop := ∃ x : Int, v = .int .i64 x ∧ x < n

def Good (w : World) (a : Addr) (P : Value → Prop) : Prop := (∃ v, w.cell? a = some v ∧ P v) ∧ w.frozen? a = false

theorem Good.set {w : World} {a : Addr} {P : Value → Prop} (h : Good w a P) (p : Addr) (u : Value) (hu : p = a → P u) : Good (w.setCell p u) a P := by
  obtain ⟨⟨v, hv, hp⟩, hf⟩ := h
  refine ⟨?_, by rw [World.frozen?_setCell]; exact hf⟩
  by_cases e : p = a
  · subst e
    exact ⟨u, World.cell?_setCell_same _ _ _ hv, hu rfl⟩
  · exact ⟨v, by rw [World.cell?_setCell_other _ _ _ _ e]; exact hv, hp⟩

/-- the names alone -/
structure Inv1 (w : World) (m : Nat) (wr : World) : Prop where
  bel : Below w.heap.size w wr
  size : wr.heap.size = w.heap.size + 1
  nm : ∀ j, j < m → Good wr ⟨w.heap.size, j, .none⟩ isStr

/-- the names, the events, the twins -/
structure Inv2 (w : World) (m n : Nat) (wr : World) : Prop where
  bel : Below w.heap.size w wr
  size : wr.heap.size = w.heap.size + 1 + 1 + 1
  nm : ∀ j, j < m → Good wr ⟨w.heap.size, j, .none⟩ isStr
  ev0 : ∀ k, k < n → Good wr ⟨w.heap.size + 1, k * 3, .none⟩ isInt
  ev1 : ∀ k, k < n → Good wr ⟨w.heap.size + 1, k * 3 + 1, .none⟩ (isProc m)
  ev2 : ∀ k, k < n → Good wr ⟨w.heap.size + 1, k * 3 + 2, .none⟩ isNil
  tw : ∀ k, k < n → Good wr ⟨w.heap.size + 1 + 1, k, .none⟩ (isTw n)

theorem Inv1.set {w wr : World} {m : Nat} (h : Inv1 w m wr) (j : Nat) (s : ByteArray) : Inv1 w m (wr.setCell ⟨w.heap.size, j, .none⟩ (.string s)) :=
  ⟨h.bel.setCell (Nat.le_refl _) _, by simp [h.size], fun i hi => (h.nm i hi).set _ _ fun _ => ⟨s, rfl⟩⟩

theorem Inv2.set {w wr : World} {m n : Nat} (h : Inv2 w m n wr) (b o : Nat) (u : Value) (hb : w.heap.size ≤ b) (c1 : b = w.heap.size → isStr u) (c2 : ∀ k, b = w.heap.size + 1 → o = k * 3 → isInt u) (c3 : ∀ k, b = w.heap.size + 1 → o = k * 3 + 1 → isProc m u)
    (c4 : ∀ k, b = w.heap.size + 1 → o = k * 3 + 2 → isNil u) (c5 : b = w.heap.size + 1 + 1 → isTw n u) : Inv2 w m n (wr.setCell ⟨b, o, .none⟩ u) :=
  ⟨h.bel.setCell hb _, by simp [h.size], fun i hi => (h.nm i hi).set _ _ fun e => c1 (congrArg Addr.block e), fun i hi => (h.ev0 i hi).set _ _ fun e => c2 i (congrArg Addr.block e) (congrArg Addr.off e),
    fun i hi => (h.ev1 i hi).set _ _ fun e => c3 i (congrArg Addr.block e) (congrArg Addr.off e), fun i hi => (h.ev2 i hi).set _ _ fun e => c4 i (congrArg Addr.block e) (congrArg Addr.off e), fun i hi => (h.tw i hi).set _ _ fun e => c5 (congrArg Addr.block e)⟩

theorem made_at (z : Array Value) (n i : Nat) (h : i < n) : (madeCells z n)[i]? = some (z[i % z.size]!) := by
  simp [madeCells, h]

theorem good_new (w : World) (cs : Array Value) (t : TypeId) (j : Nat) (v : Value) (P : Value → Prop) (h : cs[j]? = some v) (hp : P v) : Good (w.alloc (.cells cs t)) ⟨w.heap.size, j, .none⟩ P := by
  have hn := heap_alloc_new w (.cells cs t)
  refine ⟨⟨v, ?_, hp⟩, ?_⟩
  · unfold World.cell?
    rw [hn]
    simpa using h
  · unfold World.frozen?
    rw [hn]
    simp
theorem good_old {w : World} {a : Addr} {P : Value → Prop} (h : Good w a P) (O : Obj) (hb : a.block < w.heap.size) : Good (w.alloc O) a P := by
  have hn := Below.heap_alloc w O a.block hb
  obtain ⟨⟨v, hv, hp⟩, hf⟩ := h
  exact ⟨⟨v, by rw [World.cell?_of_block (w := w) hn]; exact hv, hp⟩, by rw [World.frozen?_of_block (w := w) hn]; exact hf⟩

theorem inv1_start (w : World) (m : Nat) : Inv1 w m (w.alloc (.cells (madeCells #[.string ⟨#[]⟩] m) 9)) :=
  ⟨(Below.refl _ w).alloc (Nat.le_refl _) _, by simp, fun j hj => good_new w _ 9 j (.string ⟨#[]⟩) _ (by rw [made_at _ _ _ hj]; simp [Nat.mod_one]) ⟨_, rfl⟩⟩

theorem inv2_start {w wr : World} {m n : Nat} (hm : 0 < m) (hn : 0 < n) (h : Inv1 w m wr) : Inv2 w m n ((wr.alloc (.cells (madeCells #[.int .i64 0, .int .i64 0, .slice .none 0 0] (n * 3)) 31)).alloc (.cells (madeCells #[.int .i64 0] n) 3)) := by
  have hs := h.size
  have e1 : (wr.alloc (.cells (madeCells #[.int .i64 0, .int .i64 0, .slice .none 0 0] (n * 3)) 31)).heap.size = w.heap.size + 1 + 1 := by simp [hs]
  refine ⟨(h.bel.alloc (by omega) _).alloc (by omega) _, by simp [hs], fun j hj => ?_, fun k hk => ?_, fun k hk => ?_, fun k hk => ?_, fun k hk => ?_⟩
  · exact good_old (good_old (h.nm j hj) _ (by show w.heap.size < _; omega)) _ (by show w.heap.size < _; omega)
  · refine good_old ?_ _ (by show w.heap.size + 1 < _; omega)
    rw [← hs]
    exact good_new wr _ 31 _ (.int .i64 0) _ (by rw [made_at _ _ _ (by omega)]; simp [show k * 3 % 3 = 0 by omega]) ⟨_, rfl⟩
  · refine good_old ?_ _ (by show w.heap.size + 1 < _; omega)
    rw [← hs]
    exact good_new wr _ 31 _ (.int .i64 0) _ (by rw [made_at _ _ _ (by omega)]; simp [show (k * 3 + 1) % 3 = 1 by omega]) ⟨0, rfl, hm⟩
  · refine good_old ?_ _ (by show w.heap.size + 1 < _; omega)
    rw [← hs]
    exact good_new wr _ 31 _ (.slice .none 0 0) _ (by rw [made_at _ _ _ (by omega)]; simp [show (k * 3 + 2) % 3 = 2 by omega]) rfl
  · rw [← e1]
    exact good_new _ _ 3 _ (.int .i64 0) _ (by rw [made_at _ _ _ hk]; simp [Nat.mod_one]) ⟨0, rfl, by omega⟩
end Go.Proofs.YbulkatvaFmt.twin
