/-
  Of LawS2259AExact: facts on slices of networks (structs of two strings), slices.Clone at them, and the compare loop.
-/
import Derived.Test.YbulkattkRows
import Derived.WalkKit
import Derived.WalkSpells
import Derived.ProofKit
import Derived.OwnWalk
import Derived.Lib.Walk
import Derived.Lib.SliceRun
import Derived.Deep.QuietTactic
import Derived.BigQuiet
import Derived.Outline
namespace Go.Proofs.Ybulkattk.exact
open Go.ChangeShapes Go.WideShapes Go.ChangeAt Go.RowKit

theorem info37 : (Yba.prog.info? 37).map (fun i => (i.zero, i.size, i.bytes)) = some (some (.agg #[.string ⟨#[]⟩, .string ⟨#[]⟩]), 2, 32) := by kernel_rfl

/-- A slice of n networks at address 'a': cell 2i holds the first string of element i, cell 2i+1 the second. -/
def Row (w : World) (a : Option Addr) (n : Nat) (s0 s1 : Nat → ByteArray) : Prop :=
  n = 0 ∨ ∃ b off, a = some ⟨b, off, .none⟩ ∧ b < w.heap.size ∧
    ∀ i, i < n → w.cell? ⟨b, off + i * 2, .none⟩ = some (.string (s0 i)) ∧ w.cell? ⟨b, off + i * 2 + 1, .none⟩ = some (.string (s1 i))

/-- The cells of such a slice, one behind the other. -/
def cellsOf (n : Nat) (s0 s1 : Nat → ByteArray) : List Value := (List.range n).flatMap fun i => [.string (s0 i), .string (s1 i)]

theorem cellsOf_succ (n : Nat) (s0 s1 : Nat → ByteArray) : cellsOf (n + 1) s0 s1 = cellsOf n s0 s1 ++ [.string (s0 n), .string (s1 n)] := by
  simp [cellsOf, List.range_succ]
theorem cellsOf_length (n : Nat) (s0 s1 : Nat → ByteArray) : (cellsOf n s0 s1).length = n * 2 := by
  induction n with
  | zero => rfl
  | succ n ih => rw [cellsOf_succ, List.length_append, ih]; simp; omega
theorem cellsOf_at (n : Nat) (s0 s1 : Nat → ByteArray) : ∀ i, i < n → (cellsOf n s0 s1)[i * 2]? = some (.string (s0 i)) ∧ (cellsOf n s0 s1)[i * 2 + 1]? = some (.string (s1 i)) := by
  induction n with
  | zero => intro i h; omega
  | succ n ih =>
    intro i h
    have hl := cellsOf_length n s0 s1
    rw [cellsOf_succ]
    by_cases e : i < n
    · rw [List.getElem?_append_left (by omega), List.getElem?_append_left (by omega)]
      exact ih i e
    · obtain rfl : i = n := by omega
      rw [List.getElem?_append_right (by omega), List.getElem?_append_right (by omega), hl]
      simp
theorem cellsOf_some (n : Nat) (s0 s1 : Nat → ByteArray) (j : Nat) (u : Value) (h : (cellsOf n s0 s1)[j]? = some u) :
    j / 2 < n ∧ ((j = j / 2 * 2 ∧ u = .string (s0 (j / 2))) ∨ (j = j / 2 * 2 + 1 ∧ u = .string (s1 (j / 2)))) := by
  have hj : j < n * 2 := by
    rw [← cellsOf_length n s0 s1]
    exact (List.getElem?_eq_some_iff.1 h).1
  have hq : j / 2 < n := by omega
  obtain ⟨h0, h1⟩ := cellsOf_at n s0 s1 (j / 2) hq
  refine ⟨hq, ?_⟩
  rcases Nat.mod_two_eq_zero_or_one j with e | e
  · left
    have : j = j / 2 * 2 := by omega
    rw [← this] at h0
    exact ⟨this, by rw [h0] at h; exact (Option.some.inj h).symm⟩
  · right
    have : j = j / 2 * 2 + 1 := by omega
    rw [← this] at h1
    exact ⟨this, by rw [h1] at h; exact (Option.some.inj h).symm⟩
theorem cellsOf_one (n : Nat) (s0 s1 : Nat → ByteArray) : ∀ u ∈ cellsOf n s0 s1, u.oneCell' = true := by
  intro u hu
  obtain ⟨j, hj⟩ := List.mem_iff_getElem?.1 hu
  obtain ⟨_, ⟨_, rfl⟩ | ⟨_, rfl⟩⟩ := cellsOf_some n s0 s1 j u hj <;> rfl

/-- A row that the call owns is a Row. -/
theorem row_of_owns {w : World} {base n : Nat} {v : Value} {s0 s1 : Nat → ByteArray} (h : w.ownsRow base 37 2 v n (cellsOf n s0 s1)) :
    ∃ a c, v = .slice a n c ∧ Row w a n s0 s1 ∧ (n ≠ 0 → ∃ g cur, a = some ⟨g, 0, .none⟩ ∧ base ≤ g ∧ w.heap[g]? = some (.cells cur 37 (0, 0))) := by
  obtain ⟨_, ⟨rfl, rfl⟩ | ⟨g, cap, cur, rfl, hb, hg, hc, _, hsz, ht⟩⟩ := h
  · exact ⟨_, _, rfl, .inl rfl, fun h => absurd rfl h⟩
  · refine ⟨_, _, rfl, .inr ⟨g, 0, rfl, ?_, ?_⟩, fun _ => ⟨g, cur, rfl, hb, hg⟩⟩
    · exact (Array.getElem?_eq_some_iff.1 hg).1
    · intro i hi
      obtain ⟨h0, h1⟩ := cellsOf_at n s0 s1 i hi
      rw [← ht] at h0 h1
      rw [List.getElem?_take] at h0 h1
      rw [if_pos (by omega)] at h0 h1
      simp [World.cell?, hg]
      exact ⟨by simpa using h0, by simpa using h1⟩

/-- It stays one behind whatever leaves what was there alone. -/
theorem Row.below {w w' : World} {a : Option Addr} {n : Nat} {s0 s1 : Nat → ByteArray} {B : Nat} (h : Row w a n s0 s1) (hb : Below B w w') (ha : ∀ x, a = some x → x.block < B) : Row w' a n s0 s1 := by
  rcases h with h | ⟨b, off, rfl, hlt, h⟩
  · exact .inl h
  · have hB : b < B := ha _ rfl
    refine .inr ⟨b, off, rfl, Nat.lt_of_lt_of_le hlt hb.size, fun i hi => ?_⟩
    rw [hb.cell (p := ⟨b, off + i * 2, .none⟩) hB, hb.cell (p := ⟨b, off + i * 2 + 1, .none⟩) hB]
    exact h i hi

set_option maxHeartbeats 1000000 in
set_option maxRecDepth 100000 in
/-- slices.Clone of nil. -/
theorem clone_nil (c : Nat) (w : World) : Calls Yba.prog 12 #[.slice .none 0 c] w fun e w' => e = .returned (.slice .none 0 0) ∧ w' = w := by
  have q22 := fun (w : World) a n c n' c' => Lib.run_eql_slice_nil (P := Yba.prog) w 22 _ a n c n' c' Yba.underlying22
  go_enter Yba.func12, Yba.ntmps12
  go_wp2
  go_ret
  exact ⟨rfl, rfl⟩

set_option maxHeartbeats 1000000 in
set_option maxRecDepth 100000 in
/-- slices.Clone of another slice. -/
theorem clone_some (x : Addr) (n c : Nat) (s0 s1 : Nat → ByteArray) (w : World) (hr : Row w (some x) n s0 s1) (hn : n ≤ 1024) :
    Calls Yba.prog 12 #[.slice (some x) n c] w fun e w' => ∃ a' c', e = .returned (.slice a' n c') ∧ Row w' a' n s0 s1 ∧
      (n ≠ 0 → ∃ g cur, a' = some ⟨g, 0, .none⟩ ∧ w.heap.size ≤ g ∧ w'.heap[g]? = some (.cells cur 37 (0, 0))) ∧ Below w.heap.size w w' := by
  have q22 := fun (w : World) a n c n' c' => Lib.run_eql_slice_nil (P := Yba.prog) w 22 _ a n c n' c' Yba.underlying22
  obtain ⟨i0, hi0, hz0, hz1, hz2⟩ := info_parts info37
  have A : Hid (Row w (some x) n s0 s1) := hr
  clear hr
  go_enter Yba.func12, Yba.ntmps12
  go_wp2_with (at_builtin; refine wpList_append_own _ rfl _ _ 22 rfl w.heap.size 37 i0 _ 2 32 Yba.underlying22 hi0 hz0 hz1 hz2 rfl (by decide) _ _ _ rfl (World.ownsRow_made w #[] 0 (Nat.le_refl _) (Nat.zero_le _) (by simp)) x n c (cellsOf n s0 s1) rfl ?qc1 ?qc2 ?qc3 ?qc4 ?qc5 ?qc6 ?_)
  case qc1 => exact cellsOf_length n s0 s1
  case qc2 =>
    intro j u hj
    rcases A.out with h | ⟨b, off, hx, hlt, h⟩
    · subst h; simp [cellsOf] at hj
    · cases hx
      obtain ⟨hq, hu⟩ := cellsOf_some n s0 s1 j u hj
      obtain ⟨h0, h1⟩ := h (j / 2) hq
      rw [Addr.add_lit]
      apply Lib.cell?_alloc_some
      rcases hu with ⟨e, rfl⟩ | ⟨e, rfl⟩
      · rw [e]; simpa using h0
      · rw [e]; rw [show (j / 2 * 2 + 1) / 2 = j / 2 by omega]; rw [← Nat.add_assoc]; exact h1
  case qc3 => exact cellsOf_one n s0 s1
  case qc4 => rw [Nat.zero_add]; unfold maxLen; omega
  case qc5 => rw [Nat.zero_add]; omega
  case qc6 => simp
  intro v' w1 hown hgrow hnil
  have hown' : w1.ownsRow w.heap.size 37 2 v' n (cellsOf n s0 s1) := by simpa using hown
  obtain ⟨a', c', hv, hr, hg⟩ := row_of_owns hown'
  clear hown hown'
  have R : Hid (Row w1 a' n s0 s1) := hr
  have G : Hid (n ≠ 0 → ∃ g cur, a' = some ⟨g, 0, .none⟩ ∧ w.heap.size ≤ g ∧ w1.heap[g]? = some (.cells cur 37 (0, 0))) := hg
  have GR : Hid (World.grownBy (w.alloc (.cells #[] 37)) w1 (Value.ownBlock (.slice (some ⟨w.heap.size, 0, .none⟩) 0 0))) := hgrow
  clear hr hg hgrow hnil
  rw [hv]
  go_wp2
  go_ret
  exact ⟨a', c', rfl, R.out, G.out, ((Below.refl _ w).alloc (Nat.le_refl _) _).grown GR.out (by simp) (by intro k hk; simp [Value.ownBlock] at hk; omega)⟩
end Go.Proofs.Ybulkattk.exact
