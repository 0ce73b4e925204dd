/-
  Of LawS2267BCounts: slices.SortStableFunc: why the merge in place sorts (no Go in sight).
-/
import Derived.Test.YbulkatxsFmtCntIns
namespace Go.Proofs.YbulkatxsFmt.cnt
open Go
open Go.Sort (swp PermIn permIn_refl permIn_trans permIn_mono permIn_all swp_permIn swp_other swp_left swp_right size_swp)

/-- nothing left of md is greater than anything right of it -/
def Cross (d : Array Hu) (a md b : Nat) : Prop := ∀ p q, a ≤ p → p < md → md ≤ q → q < b → d[p]!.i ≤ d[q]!.i

theorem cut_law (d e : Array Hu) (a m b md st en s0 r0 : Nat) (ham : a < m) (h1 : 2 * md ≤ a + b) (h2 : a + b ≤ 2 * md + 1) (hcase : (md < m ∧ s0 + b = md + m ∧ r0 = md) ∨ (m ≤ md ∧ s0 = a ∧ r0 = m)) (hs : s0 ≤ st) (hr : st ≤ r0) (hen : en + st = md + m)
    (hA : Asc d a m) (hB : Asc d m b) (lo : ∀ c, s0 ≤ c → c < st → d[c]!.i ≤ d[md + m - 1 - c]!.i) (hi : ∀ c, st ≤ c → c < r0 → d[md + m - 1 - c]!.i < d[c]!.i) (he : ∀ k, e[k]! = rot (fun k => d[k]!) st m en k) :
    Asc e a st ∧ Asc e st md ∧ Asc e md en ∧ Asc e en b ∧ Cross e a md b := by
  have a1 : a ≤ st := by omega
  have a2 : st ≤ md := by omega
  have a3 : st ≤ m := by omega
  have a4 : m ≤ en := by omega
  have a5 : en ≤ b := by omega
  have v1 : ∀ k, k < st → e[k]! = d[k]! := fun k hk => by rw [he]; unfold rot; rw [if_neg (by omega), if_neg (by omega)]
  have v2 : ∀ k, st ≤ k → k < md → e[k]! = d[k + (m - st)]! := fun k hk hk' => by rw [he]; unfold rot; rw [if_pos (by omega)]
  have v3 : ∀ k, md ≤ k → k < en → e[k]! = d[k - (en - m)]! := fun k hk hk' => by rw [he]; unfold rot; rw [if_neg (by omega), if_pos (by omega)]
  have v4 : ∀ k, en ≤ k → e[k]! = d[k]! := fun k hk => by rw [he]; unfold rot; rw [if_neg (by omega), if_neg (by omega)]
  have le : ∀ p q, a ≤ p → p ≤ q → q < m → d[p]!.i ≤ d[q]!.i := fun p q x y z => by
    by_cases e : p = q
    · rw [e]; exact Nat.le_refl _
    · exact hA p q x (by omega) z
  have le' : ∀ p q, m ≤ p → p ≤ q → q < b → d[p]!.i ≤ d[q]!.i := fun p q x y z => by
    by_cases e : p = q
    · rw [e]; exact Nat.le_refl _
    · exact hB p q x (by omega) z
  refine ⟨fun p q x y z => ?_, fun p q x y z => ?_, fun p q x y z => ?_, fun p q x y z => ?_, fun p q x y z t => ?_⟩
  · rw [v1 p (by omega), v1 q z]; exact hA p q x y (by omega)
  · rw [v2 p x (by omega), v2 q (by omega) z]; exact hB _ _ (by omega) (by omega) (by omega)
  · rw [v3 p x (by omega), v3 q (by omega) z]; exact hA _ _ (by omega) (by omega) (by omega)
  · rw [v4 p x, v4 q (by omega)]; exact hB p q (by omega) y z
  · by_cases c1 : p < st
    · rw [v1 p c1]
      by_cases c2 : q < en
      · rw [v3 q z c2]; exact le _ _ x (by omega) (by omega)
      · rw [v4 q (by omega)]
        have l1 := lo (st - 1) (by omega) (by omega)
        rw [show md + m - 1 - (st - 1) = en by omega] at l1
        exact Nat.le_trans (le p (st - 1) x (by omega) (by omega)) (Nat.le_trans l1 (le' en q (by omega) (by omega) t))
    · rw [v2 p (by omega) y]
      by_cases c2 : q < en
      · rw [v3 q z c2]
        have l1 := hi st (Nat.le_refl _) (by omega)
        rw [show md + m - 1 - st = en - 1 by omega] at l1
        exact Nat.le_trans (le' _ (en - 1) (by omega) (by omega) (by omega)) (Nat.le_trans (Nat.le_of_lt l1) (le st _ a1 (by omega) (by omega)))
      · rw [v4 q (by omega)]; exact le' _ _ (by omega) (by omega) t

theorem join_law (e f h : Array Hu) (a md b : Nat) (hamd : a ≤ md) (hmdb : md ≤ b) (hb : b ≤ e.size) (hc : Cross e a md b) (p1 : PermIn a md e f) (s1 : Asc f a md) (p2 : PermIn md b f h) (s2 : Asc h md b) : PermIn a b e h ∧ Asc h a b := by
  have fz : f.size = e.size := p1.1
  refine ⟨permIn_trans _ _ _ _ _ (permIn_mono _ _ _ _ _ _ (Nat.le_refl _) hmdb hb p1) (permIn_mono _ _ _ _ _ _ hamd (Nat.le_refl _) (by omega) p2), fun p q x y z => ?_⟩
  have k1 : ∀ p, a ≤ p → p < md → ∀ q, md ≤ q → q < b → f[p]!.i ≤ e[q]!.i := fun p hp hp' =>
    permIn_all e f a md (fun v => ∀ q, md ≤ q → q < b → v.i ≤ e[q]!.i) (by omega) p1 (fun i hi hi' q hq hq' => hc i q hi hi' hq hq') p hp hp'
  have k2 : ∀ q, md ≤ q → q < b → ∀ p, a ≤ p → p < md → f[p]!.i ≤ h[q]!.i := fun q hq hq' =>
    permIn_all f h md b (fun v => ∀ p, a ≤ p → p < md → f[p]!.i ≤ v.i) (by omega) p2 (fun i hi hi' p hp hp' => by rw [p1.2.1 i (.inr hi)]; exact k1 p hp hp' i hi hi') q hq hq'
  by_cases c1 : q < md
  · rw [p2.2.1 p (.inl (by omega)), p2.2.1 q (.inl c1)]; exact s1 p q x y c1
  · by_cases c2 : p < md
    · rw [p2.2.1 p (.inl c2)]; exact k2 q (by omega) z p x c2
    · exact s2 p q (by omega) y z

theorem rot_none (d : Array Hu) (st m en : Nat) (h : ¬ (st < m ∧ m < en)) (h1 : st ≤ m) (h2 : m ≤ en) (k : Nat) : d[k]! = rot (fun k => d[k]!) st m en k := by
  unfold rot
  by_cases c : st = m
  · subst c
    by_cases c1 : st ≤ k ∧ k < st + (en - st)
    · rw [if_pos c1]; simp
    · rw [if_neg c1]
      by_cases c2 : st + (en - st) ≤ k ∧ k < en
      · omega
      · rw [if_neg c2]
  · have : m = en := by omega
    subst this
    rw [if_neg (by omega)]
    by_cases c2 : st + (m - m) ≤ k ∧ k < m
    · rw [if_pos c2]; simp
    · rw [if_neg c2]

theorem asc_whole_l {e : Array Hu} {a st md : Nat} (h1 : Asc e a st) (h2 : Asc e st md) (h : ¬ (a < st ∧ st < md)) (ha : a ≤ st) (hm : st ≤ md) : Asc e a md := by
  by_cases c : a = st
  · subst c; exact h2
  · have : st = md := by omega
    subst this; exact h1
end Go.Proofs.YbulkatxsFmt.cnt
