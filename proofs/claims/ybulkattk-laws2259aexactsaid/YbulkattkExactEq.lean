/-
  Of LawS2259AExact: the compare loop zzs2259aeq at two slices of the same strings; zzs2259aplain; zzs2259aupd.
-/
import Derived.Test.YbulkattkExactBase
import Derived.Laws.StructEq
import Derived.WalkSmall
namespace Go.Proofs.Ybulkattk.exact
open Go.ChangeShapes Go.WideShapes Go.ChangeAt Go.RowKit Go

set_option maxHeartbeats 1000000 in
set_option maxRecDepth 100000 in
theorem eq_zero (a b : Option Addr) (ca cb : Nat) (w : World) :
    Calls Yba.prog 11 #[.slice a 0 ca, .slice b 0 cb] w fun e w' => e = .returned (.bool true) ∧ ∃ q, w' = w.drewN q := by
  go_enter Yba.func11, Yba.ntmps11
  go_wp2
  refine wp_loop_rounds 1 ?_
  rw [rounds_succ]
  go_wp2
  go_ret
  exact ⟨rfl, 0, rfl⟩

set_option maxHeartbeats 1000000 in
set_option maxRecDepth 100000 in
theorem eq_pos (ba oa bb ob : Nat) (n ca cb : Nat) (s0 s1 : Nat → ByteArray) (w : World) (hn : n ≤ 1024)
    (ha : ∀ i, i < n → w.cell? ⟨ba, oa + i * 2, .none⟩ = some (.string (s0 i)) ∧ w.cell? ⟨ba, oa + i * 2 + 1, .none⟩ = some (.string (s1 i)))
    (hb : ∀ i, i < n → w.cell? ⟨bb, ob + i * 2, .none⟩ = some (.string (s0 i)) ∧ w.cell? ⟨bb, ob + i * 2 + 1, .none⟩ = some (.string (s1 i))) :
    Calls Yba.prog 11 #[.slice (some ⟨ba, oa, .none⟩) n ca, .slice (some ⟨bb, ob, .none⟩) n cb] w fun e w' => e = .returned (.bool true) ∧ ∃ q, w' = w.drewN q := by
  have A : Hid (∀ i, i < n → w.cell? ⟨ba, oa + i * 2, .none⟩ = some (.string (s0 i)) ∧ w.cell? ⟨ba, oa + i * 2 + 1, .none⟩ = some (.string (s1 i))) := ha
  have B : Hid (∀ i, i < n → w.cell? ⟨bb, ob + i * 2, .none⟩ = some (.string (s0 i)) ∧ w.cell? ⟨bb, ob + i * 2 + 1, .none⟩ = some (.string (s1 i))) := hb
  clear ha hb
  go_enter Yba.func11, Yba.ntmps11
  go_wp2
  go_loopw [5] (fun i wr => ∃ k : Nat, k ≤ n ∧ i = .int .i64 k ∧ ∃ q, wr = w.drewN q) (fun i _ => n - (intOf i).toNat)
  case atStart => exact ⟨0, Nat.zero_le _, rfl, 0, rfl⟩
  case round =>
    obtain ⟨k, hk, rfl, q, rfl⟩ := hrel
    by_cases hlt : k < n
    · obtain ⟨a0, a1⟩ := A.out k hlt
      obtain ⟨b0, b1⟩ := B.out k hlt
      have h0 : (0 : Int) ≤ (k : Int) := by omega
      have h1 : (k : Int) < (n : Int) := by omega
      go_wp2_with fail
      go_quiet (fail)
      go_wp2
      go_roundw
      case rel => exact ⟨k + 1, by omega, by go_num, _, rfl⟩
      case measure => simp [intOf]; omega
    · go_wp2
      go_ret
      exact ⟨rfl, q, rfl⟩

/-- Two addresses in two blocks, the first a plain row of the call's own, the second a cell that is there: not one. -/
theorem run_sameAddr_new {P : Program} (w : World) {g o b off : Nat} {cur : Array Value} {t : TypeId} {v : Value} (hne : g ≠ b) (hg : w.heap[g]? = some (.cells cur t (0, 0))) (hb : w.cell? ⟨b, off, .none⟩ = some v) :
    (sameAddr ⟨g, o, .none⟩ ⟨b, off, .none⟩).run P w = .ok false w := by
  rcases hx : w.heap[b]? with _ | ob
  · simp [World.cell?, hx] at hb
  · cases ob with
    | cells c e m =>
      obtain ⟨lo, hi⟩ := m
      simp [World.cell?, hx] at hb
      have hs : c.size ≠ 0 := by
        intro h
        have : c = #[] := Array.eq_empty_of_size_eq_zero h
        subst this
        simp at hb
      simp [sameAddr, hne, World.frozen?, hg, hx, noView, viewAt, World.shape?, mayBeOne, stringish]
      obtain ⟨k, hk⟩ : ∃ k, c.size = k + 1 := ⟨c.size - 1, by omega⟩
      simp [hk]
    | _ => simp [World.cell?, hx] at hb

/-- The address of an element of the call's own row is none of another block's. -/
theorem run_eql_new (w : World) {g o b off : Nat} {cur : Array Value} {t : TypeId} {v : Value} (hne : g ≠ b) (hg : w.heap[g]? = some (.cells cur t (0, 0))) (hb : w.cell? ⟨b, off, .none⟩ = some v) :
    (binOp .eql 67 (.pointer (some ⟨g, o, .none⟩)) (.pointer (some ⟨b, off, .none⟩))).run Yba.prog w = .ok (.bool false) w := by
  have h : ∀ d : Nat, (Op.equalIn (d + 1) 67 (.pointer (some ⟨g, o, .none⟩)) (.pointer (some ⟨b, off, .none⟩))).run Yba.prog w = .ok false w := fun d => by
    simp [Op.equalIn, run_underlying Yba.underlying67, Yba.sizeOf37, run_sameAddr_new w hne hg hb]
  simp only [binOp]
  simp [Op.equal, Op.maxDepth, h 9999]

def UP : ByteArray := ⟨#[117, 112, 100, 97, 116, 101, 45, 112, 114, 101, 102, 101, 114, 114, 101, 100]⟩

set_option maxHeartbeats 1000000 in
set_option maxRecDepth 100000 in
theorem upd_zero (a b : Option Addr) (ca cb : Nat) (w : World) :
    Calls Yba.prog 8 #[.agg #[.string UP, .slice a 0 ca], .slice b 0 cb] w fun e w' => e = .returned (.bool true) ∧ Below w.heap.size w w' := by
  unfold UP
  go_enter Yba.func8, Yba.ntmps8
  go_wp2_with (go_at_call 11; refine (eq_zero _ _ _ _ _).mono ?_; rintro e w' ⟨rfl, q, rfl⟩)
  go_quiet (fail)
  go_wp2
  go_ret
  exact ⟨rfl, below_drewN (below_drewN ((Below.refl _ _).alloc (Nat.le_refl _) _) _) _⟩

set_option maxHeartbeats 1000000 in
set_option maxRecDepth 100000 in
theorem upd_pos (g b off n ca cb : Nat) (cur : Array Value) (s0 s1 : Nat → ByteArray) (w : World) (hn : n ≤ 1024) (h0 : 0 < n) (hne : g ≠ b) (hg : w.heap[g]? = some (.cells cur 37 (0, 0)))
    (ha : ∀ i, i < n → w.cell? ⟨g, 0 + i * 2, .none⟩ = some (.string (s0 i)) ∧ w.cell? ⟨g, 0 + i * 2 + 1, .none⟩ = some (.string (s1 i)))
    (hb : ∀ i, i < n → w.cell? ⟨b, off + i * 2, .none⟩ = some (.string (s0 i)) ∧ w.cell? ⟨b, off + i * 2 + 1, .none⟩ = some (.string (s1 i))) :
    Calls Yba.prog 8 #[.agg #[.string UP, .slice (some ⟨g, 0, .none⟩) n ca], .slice (some ⟨b, off, .none⟩) n cb] w fun e w' => e = .returned (.bool true) ∧ Below w.heap.size w w' := by
  unfold UP
  have lg := (Array.getElem?_eq_some_iff.1 hg).1
  have lb := World.block_lt_of_cell? w _ (hb 0 h0).1
  have E : ∀ O q, (binOp .eql 67 (.pointer (some ⟨g, 0, .none⟩)) (.pointer (some ⟨b, off, .none⟩))).run Yba.prog ((w.alloc O).drewN q) = .ok (.bool false) ((w.alloc O).drewN q) := fun O q =>
    run_eql_new _ hne (by rw [World.heap_drewN]; rw [Below.heap_alloc _ _ _ lg]; exact hg) (by rw [World.cell?_drewN]; exact Lib.cell?_alloc_some _ (by simpa using (hb 0 h0).1))
  have A : Hid (∀ O i, i < n → (w.alloc O).cell? ⟨g, 0 + i * 2, .none⟩ = some (.string (s0 i)) ∧ (w.alloc O).cell? ⟨g, 0 + i * 2 + 1, .none⟩ = some (.string (s1 i))) :=
    fun O i hi => ⟨Lib.cell?_alloc_some _ (ha i hi).1, Lib.cell?_alloc_some _ (ha i hi).2⟩
  have B : Hid (∀ O i, i < n → (w.alloc O).cell? ⟨b, off + i * 2, .none⟩ = some (.string (s0 i)) ∧ (w.alloc O).cell? ⟨b, off + i * 2 + 1, .none⟩ = some (.string (s1 i))) :=
    fun O i hi => ⟨Lib.cell?_alloc_some _ (hb i hi).1, Lib.cell?_alloc_some _ (hb i hi).2⟩
  clear ha hb hg
  have hd : decide ((0 : Int) < (n : Int)) = true := by simp; omega
  go_enter Yba.func8, Yba.ntmps8
  go_wp2_with (go_at_call 11; refine (eq_pos g 0 b off n _ _ s0 s1 _ hn (A.out _) (B.out _)).mono ?_; rintro e w' ⟨rfl, q, rfl⟩)
  go_quiet (fail)
  go_wp2
  go_ret
  exact ⟨rfl, below_drewN (below_drewN ((Below.refl _ _).alloc (Nat.le_refl _) _) _) _⟩
end Go.Proofs.Ybulkattk.exact
