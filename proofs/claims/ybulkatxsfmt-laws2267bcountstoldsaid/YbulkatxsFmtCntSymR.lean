/-
  Of LawS2267BCounts: slices.SortStableFunc: the merge where the right half holds one.
-/
import Derived.Test.YbulkatxsFmtCntSymL
namespace Go.Proofs.YbulkatxsFmt.cnt
open Go.ChangeShapes Go.WideShapes Go.ChangeAt Go.RowKit Go
open Go.Sort (swp PermIn permIn_refl permIn_trans permIn_mono permIn_all swp_permIn swp_other swp_left swp_right size_swp)

/-- what stood at m has gone back to k -/
def shL (f : Nat → Hu) (m k : Nat) (p : Nat) : Hu := if k < p ∧ p ≤ m then f (p - 1) else if p = k then f m else f p

theorem shL_succ (d e : Array Hu) (m k : Nat) (hak : k + 1 ≤ m) (hk : m < d.size) (hs : e.size = d.size) (h : ∀ p, e[p]! = shL (fun p => d[p]!) m (k + 1) p) (p : Nat) : (swp e (k + 1) k)[p]! = shL (fun p => d[p]!) m k p := by
  by_cases h1 : p = k + 1
  · subst h1
    rw [swp_left e _ _ (by omega) (by omega), h]
    unfold shL
    rw [if_neg (by omega), if_neg (by omega), if_pos (by omega)]
    rfl
  · by_cases h2 : p = k
    · subst h2
      rw [swp_right e _ _ (by omega), h]
      unfold shL
      rw [if_neg (by omega), if_pos rfl, if_neg (by omega), if_pos rfl]
    · rw [swp_other e _ _ _ h1 h2, h]
      unfold shL
      have e1 : (k < p ∧ p ≤ m) ↔ (k + 1 < p ∧ p ≤ m) := by omega
      simp only [e1, h1, h2, if_false]

theorem shL_asc (d e : Array Hu) (a i m : Nat) (hai : a ≤ i) (hib : i ≤ m) (hA : Asc d a m) (h : ∀ p, e[p]! = shL (fun p => d[p]!) m i p) (lo : ∀ k, a ≤ k → k < i → d[k]!.i ≤ d[m]!.i) (hi : ∀ k, i ≤ k → k < m → d[m]!.i < d[k]!.i) : Asc e a (m + 1) := by
  intro p q h1 h2 h3
  rw [h, h]
  unfold shL
  by_cases c1 : i < p ∧ p ≤ m
  · rw [if_pos c1, if_pos (by omega)]
    by_cases c : p = q
    · omega
    · exact hA (p - 1) (q - 1) (by omega) (by omega) (by omega)
  · rw [if_neg c1]
    by_cases c3 : p = i
    · rw [if_pos c3, if_pos (by omega)]
      exact Nat.le_of_lt (hi (q - 1) (by omega) (by omega))
    · rw [if_neg c3]
      by_cases c4 : i < q ∧ q ≤ m
      · rw [if_pos c4]
        exact Nat.le_trans (lo p (by omega) (by omega)) (Nat.le_of_lt (hi (q - 1) (by omega) (by omega)))
      · rw [if_neg c4]
        by_cases c5 : q = i
        · rw [if_pos c5]
          exact lo p (by omega) (by omega)
        · rw [if_neg c5]
          exact hA p q h1 h2 (by omega)

set_option maxHeartbeats 4000000 in
set_option maxRecDepth 100000 in
theorem symMerge_right (g c : Nat) (d : Array Hu) (a m b : Nat) (w : World) (hd : d.size ≤ 1000) (hH : HoldA w g d) (hg : g < w.heap.size) (ham : a < m) (hm : m ≠ a + 1) (hmb : b = m + 1) (hb : b ≤ d.size) (hA : Asc d a m) :
    Calls Ybaf.prog 34 #[.slice (some ⟨g, 0, .none⟩) d.size c, .int .i64 a, .int .i64 m, .int .i64 b, .func (.func 16) #[] #[]] w fun e w' => e = .returned (.tuple #[]) ∧ ∃ e', Srt g w d w' e' ∧ PermIn a b d e' ∧ Asc e' a b := by
  have HH := hide hH
  have HA := hide hA
  clear hH hA
  have q0 : ((m : Int) - (a : Int) == 1) = false := by simp; omega
  have q0' : ((b : Int) - (m : Int) == 1) = true := by simp; omega
  have HM := hide hmb
  have hm' : m < b := by omega
  have hmu : b ≤ m + 1 := by omega
  clear hm hmb
  go_enter Ybaf.func34, Ybaf.ntmps34
  go_wp2
  go_loopw [14, 15] (fun p q wr => ∃ i j : Nat, a ≤ i ∧ i ≤ j ∧ j ≤ m ∧ p = .int .i64 i ∧ q = .int .i64 j ∧ Srt g w d wr d ∧ (∀ k, a ≤ k → k < i → d[k]!.i ≤ d[m]!.i) ∧ (∀ k, j ≤ k → k < m → d[m]!.i < d[k]!.i)) (fun p q _ => (intOf q).toNat - (intOf p).toNat)
  case atStart => exact ⟨a, m, Nat.le_refl _, by omega, Nat.le_refl _, rfl, rfl, Srt.refl HH.out, fun k h1 h2 => by omega, fun k h1 h2 => by omega⟩
  case round =>
    obtain ⟨i, j, hmi, hij, hjb, rfl, rfl, hS, hlo, hhi⟩ := hrel
    have HS := hide hS
    have HLO := hide hlo
    have HHI := hide hhi
    clear hS hlo hhi
    by_cases hlt : i < j
    · have q1 : (i : Int) < (j : Int) := by omega
      obtain ⟨h, qh⟩ : ∃ h : Nat, ((i : Int) + (j : Int)) / 2 = (h : Int) := ⟨(i + j) / 2, by omega⟩
      have hih : i ≤ h := by omega
      have hhj : h < j := by omega
      have q3 : (h : Int) < (d.size : Int) := by omega
      have q4 : (0 : Int) ≤ (h : Int) := by omega
      have q5 : (m : Int) < (d.size : Int) := by omega
      have q6 : (0 : Int) ≤ (m : Int) := by omega
      have HX := hide (HS.out.hold.1 (m) (by omega))
      have HY := hide (HS.out.hold.1 (h) (by omega))
      obtain ⟨x0, x1, x2, x3, x4⟩ := HX.out
      obtain ⟨y0, y1, y2, y3, y4⟩ := HY.out
      obtain ⟨x, hx⟩ : ∃ x, x = d[m]! := ⟨_, rfl⟩
      obtain ⟨y, hy⟩ : ∃ y, y = d[h]! := ⟨_, rfl⟩
      rw [← hx] at x0 x1 x4 HX
      rw [← hy] at y0 y1 y4 HY
      have HXE := hide hx
      have HYE := hide hy
      clear hx hy
      by_cases hc : x.i < y.i
      · have q7 : cmpI x.i y.i < 0 := by unfold cmpI; split <;> omega
        go_wp2
        go_region_held3 (fun W => W.cell? ⟨g, m * 5, .none⟩ = some (.int .i32 x.a) ∧ W.cell? ⟨g, m * 5 + 1, .none⟩ = some (.int .i32 x.i) ∧ W.cell? ⟨g, m * 5 + 2, .none⟩ = some (.int .u32 0) ∧ W.cell? ⟨g, m * 5 + 3, .none⟩ = some (.int .u32 0) ∧ W.cell? ⟨g, m * 5 + 4, .none⟩ = some (.int .u32 x.c) ∧ W.cell? ⟨g, h * 5, .none⟩ = some (.int .i32 y.a) ∧ W.cell? ⟨g, h * 5 + 1, .none⟩ = some (.int .i32 y.i) ∧ W.cell? ⟨g, h * 5 + 2, .none⟩ = some (.int .u32 0) ∧ W.cell? ⟨g, h * 5 + 3, .none⟩ = some (.int .u32 0) ∧ W.cell? ⟨g, h * 5 + 4, .none⟩ = some (.int .u32 y.c))
          (go_keep)
          (first | (go_at_call 16; refine (cmp_any x y _).mono ?_; rintro e1 w1 ⟨rfl, hk1⟩; have KK : Hid (Keep No wr w1) := (Keep.refl No wr).drew.trans hk1; clear hk1; have HX1 := hide (HX.out.keep KK.out (fun h => h)); have HY1 := hide (HY.out.keep KK.out (fun h => h)); obtain ⟨a0, a1, a2, a3, a4⟩ := HX1.out; obtain ⟨b0, b1, b2, b3, b4⟩ := HY1.out))
        clear x0 x1 x2 x3 x4 y0 y1 y2 y3 y4 a0 a1 a2 a3 a4 b0 b1 b2 b3 b4
        go_wp2
        go_roundw
        case rel =>
          have hxe := HXE.out
          have hye := HYE.out
          subst hxe
          subst hye
          refine ⟨i, h, hmi, by omega, by omega, rfl, by go_num, HS.out.grown hg KK.out, HLO.out, fun k h1 h2 => ?_⟩
          by_cases e : k = h
          · subst e; exact hc
          · have := HA.out h k (by omega) (by omega) h2
            omega
        case measure => simp [intOf]; omega
      · have q7 : decide (cmpI x.i y.i < 0) = false := by unfold cmpI; simp; split <;> (try split) <;> omega
        go_wp2
        go_region_held3 (fun W => W.cell? ⟨g, m * 5, .none⟩ = some (.int .i32 x.a) ∧ W.cell? ⟨g, m * 5 + 1, .none⟩ = some (.int .i32 x.i) ∧ W.cell? ⟨g, m * 5 + 2, .none⟩ = some (.int .u32 0) ∧ W.cell? ⟨g, m * 5 + 3, .none⟩ = some (.int .u32 0) ∧ W.cell? ⟨g, m * 5 + 4, .none⟩ = some (.int .u32 x.c) ∧ W.cell? ⟨g, h * 5, .none⟩ = some (.int .i32 y.a) ∧ W.cell? ⟨g, h * 5 + 1, .none⟩ = some (.int .i32 y.i) ∧ W.cell? ⟨g, h * 5 + 2, .none⟩ = some (.int .u32 0) ∧ W.cell? ⟨g, h * 5 + 3, .none⟩ = some (.int .u32 0) ∧ W.cell? ⟨g, h * 5 + 4, .none⟩ = some (.int .u32 y.c))
          (go_keep)
          (first | (go_at_call 16; refine (cmp_any x y _).mono ?_; rintro e1 w1 ⟨rfl, hk1⟩; have KK : Hid (Keep No wr w1) := (Keep.refl No wr).drew.trans hk1; clear hk1; have HX1 := hide (HX.out.keep KK.out (fun h => h)); have HY1 := hide (HY.out.keep KK.out (fun h => h)); obtain ⟨a0, a1, a2, a3, a4⟩ := HX1.out; obtain ⟨b0, b1, b2, b3, b4⟩ := HY1.out))
        clear x0 x1 x2 x3 x4 y0 y1 y2 y3 y4 a0 a1 a2 a3 a4 b0 b1 b2 b3 b4
        go_wp2
        go_roundw
        case rel =>
          have hxe := HXE.out
          have hye := HYE.out
          subst hxe
          subst hye
          refine ⟨h + 1, j, by omega, by omega, hjb, by go_num, rfl, HS.out.grown hg KK.out, fun k h1 h2 => ?_, HHI.out⟩
          by_cases e : k = h
          · subst e; omega
          · have := HA.out k h h1 (by omega) (by omega)
            omega
        case measure => simp [intOf]; omega
    · have q1 : decide ((i : Int) < (j : Int)) = false := by simp; omega
      obtain rfl : i = j := by omega
      go_wp2
      go_loopw [17] (fun p wr => ∃ (k : Nat) (e : Array Hu), i ≤ k ∧ k ≤ m ∧ p = .int .i64 k ∧ Srt g w d wr e ∧ PermIn a b d e ∧ ∀ p, e[p]! = shL (fun p => d[p]!) m k p) (fun p _ => (intOf p).toNat)
      case atStart => exact ⟨m, d, by omega, Nat.le_refl _, rfl, HS.out, permIn_refl _ _ _, fun p => by unfold shL; rw [if_neg (by omega)]; split <;> simp_all⟩
      case round =>
        clear HS
        obtain ⟨k, e, hak, hki, rfl, hS, hP, hk⟩ := hrel
        have HS := hide hS
        have HP := hide hP
        have HK := hide hk
        have es := hS.size
        clear hS hP hk
        by_cases hlt : i < k
        · obtain ⟨l, hl⟩ : ∃ l, k = l + 1 := ⟨k - 1, by omega⟩
          have q2 : (i : Int) < (k : Int) := by omega
          have q3 : (k : Int) < (d.size : Int) := by omega
          have q4 : (l : Int) < (d.size : Int) := by omega
          have q5 : (0 : Int) ≤ (k : Int) := by omega
          have q6 : (0 : Int) ≤ (l : Int) := by omega
          have q7 : (k : Int) - 1 = (l : Int) := by omega
          have q8 : IntKind.i64.wrap (l : Int) = (l : Int) := by rw [IntKind.wrap_i64]; omega
          have HL := hide hl
          have hlk : l < k := by omega
          have hil : i ≤ l := by omega
          clear hl
          have HX := hide (HS.out.hold.1 (k) (by omega))
          have HY := hide (HS.out.hold.1 (l) (by omega))
          obtain ⟨x0, x1, x2, x3, x4⟩ := HX.out
          obtain ⟨y0, y1, y2, y3, y4⟩ := HY.out
          obtain ⟨x, hx⟩ : ∃ x, x = e[k]! := ⟨_, rfl⟩
          obtain ⟨y, hy⟩ : ∃ y, y = e[l]! := ⟨_, rfl⟩
          rw [← hx] at x0 x1 x4 HX
          rw [← hy] at y0 y1 y4 HY
          have HXE := hide hx
          have HYE := hide hy
          clear hx hy
          have fz := HS.out.hold.2
          have HE := hide (HS.out.hold.swap k l (by omega) (by omega) (by omega))
          have ne : k ≠ l := by omega
          go_wp2
          go_region
          go_wp2
          go_roundw
          case rel =>
            have hxe := HXE.out
            have hye := HYE.out
            have hll := HL.out
            subst hll
            subst hxe
            subst hye
            exact ⟨l, swp e (l + 1) l, by omega, by omega, by go_num, ⟨(put5_keep (put5_keep HS.out.keep _ _) _ _).drew, HE.out.drew, by rw [size_swp]; exact es⟩,
              permIn_trans _ _ _ _ _ HP.out (swp_permIn _ _ _ _ _ (by omega) (by omega) (by omega) (by omega) (by omega)), shL_succ d e m l hki (by omega) es HK.out⟩
          case measure => simp [intOf]; omega
        · have q2 : decide ((i : Int) < (k : Int)) = false := by simp; omega
          go_wp2
          refine bodyPost_ret (results_none rfl _ _ _) rfl ?_
          obtain rfl : k = i := by omega
          obtain rfl := HM.out
          exact ⟨rfl, e, HS.out, HP.out, shL_asc d e a k m (by omega) hjb HA.out HK.out HLO.out HHI.out⟩
end Go.Proofs.YbulkatxsFmt.cnt
