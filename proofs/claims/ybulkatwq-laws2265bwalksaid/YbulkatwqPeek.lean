/-
  textParser.peek and textParser.at at this program, and what the two laws need of them.
-/
import Derived.Test.YbulkatwqRows
import Derived.WalkKit
import Derived.WalkSpells
import Derived.ProofKit
import Derived.OwnWalk
import Derived.WalkSmall
import Derived.Deep.QuietTactic
import Derived.BigQuiet
import Derived.Outline
namespace Go.Proofs.Ybulkatwq.peek
open Go.ChangeShapes Go.WideShapes Go.ChangeAt Go.RowKit Go
theorem hide {p : Prop} (h : p) : Hid p := h

set_option maxHeartbeats 1000000 in
set_option maxRecDepth 100000 in
theorem peek_in (b : Nat) (s : ByteArray) (i : Nat) (w : World) (hi : i < s.size) (ht : w.cell? ⟨b, 0, .none⟩ = some (.string s)) (hc : w.cell? ⟨b, 2, .none⟩ = some (.int .i64 i)) :
    Calls Yba.prog 5 #[.pointer (some ⟨b, 0, .none⟩)] w fun e w' => e = .returned (.int .u8 (s[i].toNat : Int)) ∧ ∃ q, w' = w.drewN q := by
  have q0 : (0 : Int) ≤ (i : Int) := by omega
  have q1 : (i : Int) < (s.size : Int) := by omega
  have q2 : ((i : Int) == (s.size : Int)) = false := by simp; omega
  go_enter Yba.func5, Yba.ntmps5
  go_wp2
  go_quiet (fail)
  go_wp2
  go_quiet (fail)
  go_wp2
  go_ret
  exact ⟨rfl, _, World.drewN_drewN _ _ _⟩

set_option maxHeartbeats 1000000 in
set_option maxRecDepth 100000 in
theorem peek_end (b : Nat) (s : ByteArray) (i : Nat) (w : World) (hi : i = s.size) (ht : w.cell? ⟨b, 0, .none⟩ = some (.string s)) (hc : w.cell? ⟨b, 2, .none⟩ = some (.int .i64 i)) :
    Calls Yba.prog 5 #[.pointer (some ⟨b, 0, .none⟩)] w fun e w' => e = .returned (.int .u8 0) ∧ ∃ q, w' = w.drewN q := by
  have q2 : ((i : Int) == (s.size : Int)) = true := by simp; omega
  clear hi
  go_enter Yba.func5, Yba.ntmps5
  go_wp2
  go_quiet (fail)
  go_wp2
  go_ret
  exact ⟨rfl, _, rfl⟩

set_option maxHeartbeats 1000000 in
set_option maxRecDepth 100000 in
theorem at_true (b : Nat) (s : ByteArray) (i : Nat) (w : World) (hi : i < s.size) (ht : w.cell? ⟨b, 0, .none⟩ = some (.string s)) (hc : w.cell? ⟨b, 2, .none⟩ = some (.int .i64 i)) :
    Calls Yba.prog 6 #[.pointer (some ⟨b, 0, .none⟩), .int .u8 (s[i].toNat : Int)] w fun e w' => e = .returned (.bool true) ∧ ∃ q, w' = w.drewN q := by
  have q0 : (0 : Int) ≤ (i : Int) := by omega
  have q1 : (i : Int) < (s.size : Int) := by omega
  go_enter Yba.func6, Yba.ntmps6
  go_wp2
  go_quiet (fail)
  go_wp2
  go_ret
  exact ⟨rfl, _, rfl⟩

set_option maxHeartbeats 2000000 in
set_option maxRecDepth 100000 in
theorem law_in (s : ByteArray) (k : Int) (i : Nat) (w : World) (hs : s.size < 140737488355328) (h0 : 0 ≤ k) (hk : Hid (k % ((s.size : Int) + 1) = (i : Int))) (hi : i < s.size) :
    Calls Yba.prog 3 #[.string s, .int .u64 k] w fun e w' => e = .returned (.bool true) ∧ Below w.heap.size w w' := by
  have q2 : 0 ≤ k % ((s.size : Int) + 1) := Int.emod_nonneg _ (by omega)
  have q3 : k % ((s.size : Int) + 1) < (s.size : Int) + 1 := Int.emod_lt_of_pos _ (by omega)
  have q4 : (((s.size : Int) + 1) == 0) = false := by simp; omega
  go_enter Yba.func3, Yba.ntmps3
  go_wp2_with fail
  rw [hk.out]
  refine (peek_in w.heap.size s i _ hi (by simp) (by simp)).mono ?_
  rintro e w1 ⟨rfl, q, rfl⟩
  have q5 : (i : Int) < (s.size : Int) := by omega
  have q6 : (0 : Int) ≤ (i : Int) := by omega
  clear q2 q3 q4 h0
  go_wp2_with (go_at_call 6; refine (at_true w.heap.size s i _ hi (by simp) (by simp)).mono ?_; rintro e w1 ⟨rfl, q', rfl⟩)
  go_ret
  exact ⟨rfl, below_drewN ((Below.refl _ w).alloc (Nat.le_refl _) _) _⟩

set_option maxHeartbeats 2000000 in
set_option maxRecDepth 100000 in
theorem law_end (s : ByteArray) (k : Int) (i : Nat) (w : World) (hs : s.size < 140737488355328) (h0 : 0 ≤ k) (hk : Hid (k % ((s.size : Int) + 1) = (i : Int))) (hi : Hid (i = s.size)) :
    Calls Yba.prog 3 #[.string s, .int .u64 k] w fun e w' => e = .returned (.bool true) ∧ Below w.heap.size w w' := by
  have q2 : 0 ≤ k % ((s.size : Int) + 1) := Int.emod_nonneg _ (by omega)
  have q3 : k % ((s.size : Int) + 1) < (s.size : Int) + 1 := Int.emod_lt_of_pos _ (by omega)
  have q4 : (((s.size : Int) + 1) == 0) = false := by simp; omega
  go_enter Yba.func3, Yba.ntmps3
  go_wp2_with fail
  rw [hk.out]
  refine (peek_end w.heap.size s i _ hi.out (by simp) (by simp)).mono ?_
  rintro e w1 ⟨rfl, q, rfl⟩
  have q5 : ¬ (i : Int) < (s.size : Int) := by have := hi.out; omega
  clear q2 q3 q4 h0
  go_wp2
  go_ret
  exact ⟨rfl, below_drewN ((Below.refl _ w).alloc (Nat.le_refl _) _) _⟩
end Go.Proofs.Ybulkatwq.peek
