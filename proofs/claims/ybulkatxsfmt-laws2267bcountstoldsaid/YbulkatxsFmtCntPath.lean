/-
  Of LawS2267BCounts: the path of the walk, as it lies in memory; its potential.
-/
import Derived.Test.YbulkatxsFmtCntDfs
import Derived.Test.YbulkatxsFmtCntCycle
namespace Go.Proofs.YbulkatxsFmt.cnt
open Go.ChangeShapes Go.WideShapes Go.ChangeAt Go.RowKit Go

theorem HSl.keep {S : Nat → Prop} {w w' : World} {g : Nat} {v : Value} {L : List Hu} (H : HSl w g v L) (k : Keep S w w') (hg : ¬ S g) : HSl w' g v L := by
  obtain ⟨a, c, f, e, h1, h2, h3⟩ := H
  exact ⟨a, c, f, e, h1, h2, h3.keep k hg⟩

/-- the path's cells (the top comes first in p, last in the row) -/
def PRow (w : World) (g : Nat) : List (Nat × List Hu) → List Value → Prop
  | [], xs => xs = []
  | x :: p, xs => ∃ ys v, xs = ys ++ [.int .i32 x.1, v] ∧ HSl w g v x.2 ∧ PRow w g p ys

theorem PRow.keep {S : Nat → Prop} {w w' : World} {g : Nat} (k : Keep S w w') (hg : ¬ S g) : ∀ {p xs}, PRow w g p xs → PRow w' g p xs
  | [], _, h => h
  | _ :: _, _, ⟨ys, v, e, h1, h2⟩ => ⟨ys, v, e, h1.keep k hg, h2.keep k hg⟩
theorem PRow.length {w : World} {g : Nat} : ∀ {p xs}, PRow w g p xs → xs.length = p.length * 2
  | [], _, h => by rw [h]; rfl
  | _ :: _, _, ⟨ys, v, e, h1, h2⟩ => by rw [e]; simp [h2.length]; omega

/-- a row whose slice is cut shorter -/
theorem ownsRow_cut {w : World} {base : Nat} {e : TypeId} {size g n cap : Nat} {xs : List Value} (h : w.ownsRow base e size (.slice (some ⟨g, 0, none⟩) n cap) n xs) (m : Nat) (hm : m ≤ n) : w.ownsRow base e size (.slice (some ⟨g, 0, none⟩) m cap) m (xs.take (m * size)) := by
  rcases h.2 with ⟨h', _⟩ | ⟨g', cap', cur, h', hb, hg, hnc, hcm, hcs, htake⟩
  · simp at h'
  · simp only [Value.slice.injEq, Option.some.injEq, Addr.mk.injEq, and_true, true_and] at h'
    obtain ⟨rfl, rfl⟩ := h'
    have hle : m * size ≤ n * size := Nat.mul_le_mul_right _ hm
    refine ⟨by rw [List.length_take, h.1]; omega, .inr ⟨g, cap, cur, rfl, hb, hg, by omega, hcm, hcs, ?_⟩⟩
    rw [← htake, List.take_take, Nat.min_eq_left hle]

theorem exists_least {P : Nat → Prop} : ∀ n, P n → ∃ k, P k ∧ ∀ m, P m → k ≤ m := by
  intro n
  induction n using Nat.strongRecOn with
  | ind n ih =>
    intro hn
    by_cases h : ∃ m, m < n ∧ P m
    · obtain ⟨m, hm, hp⟩ := h
      exact ih m hm hp
    · exact ⟨n, hn, fun m hm => Nat.le_of_not_lt fun hlt => h ⟨m, hlt, hm⟩⟩
/-- the least number that meets P -/
noncomputable def least (P : Nat → Prop) : Nat := Classical.epsilon fun k => P k ∧ ∀ m, P m → k ≤ m
theorem least_spec {P : Nat → Prop} (h : ∃ n, P n) : P (least P) := by
  obtain ⟨n, hn⟩ := h
  exact (Classical.epsilon_spec (exists_least n hn)).1
theorem least_le {P : Nat → Prop} {n : Nat} (h : P n) : least P ≤ n := (Classical.epsilon_spec (exists_least n h)).2 n h

/-- what is still to be done: over those not seen, and over the path -/
def potU (L : List Hu) (st : Nat → Nat) : List Nat → Nat
  | [] => 0
  | n :: r => (if st n = 0 then (ofL L n).length + 2 else 0) + potU L st r
def potP : List (Nat × List Hu) → Nat
  | [] => 0
  | x :: p => x.2.length + 1 + potP p

theorem potU_same {L : List Hu} {st st' : Nat → Nat} : ∀ {r : List Nat}, (∀ n ∈ r, (st n = 0 ↔ st' n = 0)) → potU L st r = potU L st' r
  | [], _ => rfl
  | n :: r, h => by
    unfold potU
    rw [potU_same fun k hk => h k (by simp [hk])]
    have := h n (by simp)
    by_cases e : st n = 0
    · rw [if_pos e, if_pos (this.1 e)]
    · rw [if_neg e, if_neg (fun x => e (this.2 x))]
theorem potU_seen {L : List Hu} {st : Nat → Nat} {v : Nat} (k : Nat) (hk : k ≠ 0) : ∀ {r : List Nat}, r.Nodup → v ∈ r → st v = 0 → potU L (fun n => if n = v then k else st n) r + ((ofL L v).length + 2) = potU L st r
  | [], _, h, _ => by simp at h
  | n :: r, hd, h, h0 => by
    rw [List.nodup_cons] at hd
    unfold potU
    by_cases e : n = v
    · subst e
      rw [if_pos h0]
      simp only [if_true]
      rw [if_neg hk, potU_same (st := fun m => if m = n then k else st m) (st' := st) fun m hm => by
        rw [if_neg (fun e => hd.1 (by rw [← e]; exact hm))]]
      omega
    · rcases List.mem_cons.1 h with h | h
      · exact absurd h.symm e
      · have := potU_seen (L := L) (st := st) k hk hd.2 h h0
        simp only [if_neg e]
        omega
theorem potU_done {L : List Hu} {st : Nat → Nat} {v : Nat} (h : st v ≠ 0) (r : List Nat) : potU L (fun n => if n = v then 2 else st n) r = potU L st r :=
  potU_same fun n _ => by
    by_cases e : n = v
    · rw [if_pos e, e]; omega
    · rw [if_neg e]
end Go.Proofs.YbulkatxsFmt.cnt
