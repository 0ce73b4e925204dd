/-
  Of LawS2267BCounts: slices.SortStableFunc: the merge, by halves.
-/
import Derived.Test.YbulkatxsFmtCntSymHi
namespace Go.Proofs.YbulkatxsFmt.cnt
open Go.ChangeShapes Go.WideShapes Go.ChangeAt Go.RowKit Go
open Go.Sort (swp PermIn permIn_refl permIn_trans permIn_mono permIn_all swp_permIn swp_other swp_left swp_right size_swp)

set_option maxHeartbeats 8000000 in
set_option maxRecDepth 100000 in
theorem symMerge_lo (g c : Nat) (d : Array Hu) (a m b : Nat) (w : World) (hI : Merges g c (b - a)) (hd : d.size ≤ 1000) (hH : HoldA w g d) (hg : g < w.heap.size) (ham : a < m) (hmb : m < b) (hm1 : m ≠ a + 1) (hm2 : b ≠ m + 1) (hb : b ≤ d.size) (hA : Asc d a m) (hB : Asc d m b) (md : Nat) (hmd1 : 2 * md ≤ a + b) (hmd2 : a + b ≤ 2 * md + 1) (hmm : m ≤ md) :
    Calls Ybaf.prog 34 #[.slice (some ⟨g, 0, .none⟩) d.size c, .int .i64 a, .int .i64 m, .int .i64 b, .func (.func 16) #[] #[]] w fun e w' => e = .returned (.tuple #[]) ∧ ∃ e', Srt g w d w' e' ∧ PermIn a b d e' ∧ Asc e' a b := by
  have _u1 := hm1
  have _u2 := hm2
  have HH := hide hH
  have HA := hide hA
  have HB := hide hB
  have HI := hide hI
  clear hH hA hB hI
  have q0 : ((m : Int) - (a : Int) == 1) = false := by simp; omega
  have q0' : ((b : Int) - (m : Int) == 1) = false := by simp; omega
  have q1 : ((a : Int) + (b : Int)) / 2 = (md : Int) := by omega
  have qm : ¬ (md : Int) < (m : Int) := by omega
  obtain ⟨pp, hpp⟩ : ∃ pp, pp + 1 = md + m := ⟨md + m - 1, by omega⟩
  have q2 : (md : Int) + (m : Int) - 1 = (pp : Int) := by omega
  go_enter Ybaf.func34, Ybaf.ntmps34
  go_wp2
  go_loopw [20, 21] (fun p q wr => ∃ i j : Nat, a ≤ i ∧ i ≤ j ∧ j ≤ m ∧ p = .int .i64 i ∧ q = .int .i64 j ∧ Srt g w d wr d ∧ (∀ k, a ≤ k → k < i → d[k]!.i ≤ d[md + m - 1 - k]!.i) ∧ (∀ k, j ≤ k → k < m → d[md + m - 1 - k]!.i < d[k]!.i)) (fun p q _ => (intOf q).toNat - (intOf p).toNat)
  case atStart => exact ⟨a, m, Nat.le_refl _, by omega, Nat.le_refl _, by go_num, rfl, Srt.refl HH.out, fun k h1 h2 => by omega, fun k h1 h2 => by omega⟩
  case round =>
    obtain ⟨i, j, hmi, hij, hjb, rfl, rfl, hS, hlo, hhi⟩ := hrel
    have HS := hide hS
    have HLO := hide hlo
    have HHI := hide hhi
    clear hS hlo hhi
    by_cases hlt : i < j
    · have q3 : (i : Int) < (j : Int) := by omega
      obtain ⟨h, qh⟩ : ∃ h : Nat, ((i : Int) + (j : Int)) / 2 = (h : Int) := ⟨(i + j) / 2, by omega⟩
      have hih : i ≤ h := by omega
      have hhj : h < j := by omega
      obtain ⟨z, qz⟩ : ∃ z : Nat, (pp : Int) - (h : Int) = (z : Int) := ⟨pp - h, by omega⟩
      have hz1 : z + h + 1 = md + m := by omega
      have q4 : (h : Int) < (d.size : Int) := by omega
      have q5 : (0 : Int) ≤ (h : Int) := by omega
      have q6 : (z : Int) < (d.size : Int) := by omega
      have q7 : (0 : Int) ≤ (z : Int) := by omega
      have q8 : IntKind.i64.wrap (z : Int) = (z : Int) := by rw [IntKind.wrap_i64]; omega
      have HX := hide (HS.out.hold.1 (z) (by omega))
      have HY := hide (HS.out.hold.1 (h) (by omega))
      obtain ⟨x0, x1, x2, x3, x4⟩ := HX.out
      obtain ⟨y0, y1, y2, y3, y4⟩ := HY.out
      obtain ⟨x, hx⟩ : ∃ x, x = d[z]! := ⟨_, rfl⟩
      obtain ⟨y, hy⟩ : ∃ y, y = d[h]! := ⟨_, rfl⟩
      rw [← hx] at x0 x1 x4 HX
      rw [← hy] at y0 y1 y4 HY
      have HXE := hide hx
      have HYE := hide hy
      clear hx hy
      by_cases hc : x.i < y.i
      · have q9 : cmpI x.i y.i < 0 := by unfold cmpI; split <;> omega
        go_wp2
        go_region_held3 (fun W => W.cell? ⟨g, z * 5, .none⟩ = some (.int .i32 x.a) ∧ W.cell? ⟨g, z * 5 + 1, .none⟩ = some (.int .i32 x.i) ∧ W.cell? ⟨g, z * 5 + 2, .none⟩ = some (.int .u32 0) ∧ W.cell? ⟨g, z * 5 + 3, .none⟩ = some (.int .u32 0) ∧ W.cell? ⟨g, z * 5 + 4, .none⟩ = some (.int .u32 x.c) ∧ W.cell? ⟨g, h * 5, .none⟩ = some (.int .i32 y.a) ∧ W.cell? ⟨g, h * 5 + 1, .none⟩ = some (.int .i32 y.i) ∧ W.cell? ⟨g, h * 5 + 2, .none⟩ = some (.int .u32 0) ∧ W.cell? ⟨g, h * 5 + 3, .none⟩ = some (.int .u32 0) ∧ W.cell? ⟨g, h * 5 + 4, .none⟩ = some (.int .u32 y.c))
          (go_keep)
          (first | (go_at_call 16; refine (cmp_any x y _).mono ?_; rintro e1 w1 ⟨rfl, hk1⟩; have KK : Hid (Keep No wr w1) := (Keep.refl No wr).drew.trans hk1; clear hk1; have HX1 := hide (HX.out.keep KK.out (fun h => h)); have HY1 := hide (HY.out.keep KK.out (fun h => h)); obtain ⟨a0, a1, a2, a3, a4⟩ := HX1.out; obtain ⟨b0, b1, b2, b3, b4⟩ := HY1.out))
        clear x0 x1 x2 x3 x4 y0 y1 y2 y3 y4 a0 a1 a2 a3 a4 b0 b1 b2 b3 b4
        go_wp2
        go_roundw
        case rel =>
          have hxe := HXE.out
          have hye := HYE.out
          subst hxe
          subst hye
          refine ⟨i, h, hmi, by omega, by omega, rfl, by go_num, HS.out.grown hg KK.out, HLO.out, fun k h1 h2 => ?_⟩
          by_cases e : k = h
          · subst e; rw [show md + m - 1 - k = z by omega]; exact hc
          · have e1 := HA.out h k (by omega) (by omega) (by omega)
            have e2 := HB.out (md + m - 1 - k) z (by omega) (by omega) (by omega)
            omega
        case measure => simp [intOf]; omega
      · have q9 : decide (cmpI x.i y.i < 0) = false := by unfold cmpI; simp; split <;> (try split) <;> omega
        go_wp2
        go_region_held3 (fun W => W.cell? ⟨g, z * 5, .none⟩ = some (.int .i32 x.a) ∧ W.cell? ⟨g, z * 5 + 1, .none⟩ = some (.int .i32 x.i) ∧ W.cell? ⟨g, z * 5 + 2, .none⟩ = some (.int .u32 0) ∧ W.cell? ⟨g, z * 5 + 3, .none⟩ = some (.int .u32 0) ∧ W.cell? ⟨g, z * 5 + 4, .none⟩ = some (.int .u32 x.c) ∧ W.cell? ⟨g, h * 5, .none⟩ = some (.int .i32 y.a) ∧ W.cell? ⟨g, h * 5 + 1, .none⟩ = some (.int .i32 y.i) ∧ W.cell? ⟨g, h * 5 + 2, .none⟩ = some (.int .u32 0) ∧ W.cell? ⟨g, h * 5 + 3, .none⟩ = some (.int .u32 0) ∧ W.cell? ⟨g, h * 5 + 4, .none⟩ = some (.int .u32 y.c))
          (go_keep)
          (first | (go_at_call 16; refine (cmp_any x y _).mono ?_; rintro e1 w1 ⟨rfl, hk1⟩; have KK : Hid (Keep No wr w1) := (Keep.refl No wr).drew.trans hk1; clear hk1; have HX1 := hide (HX.out.keep KK.out (fun h => h)); have HY1 := hide (HY.out.keep KK.out (fun h => h)); obtain ⟨a0, a1, a2, a3, a4⟩ := HX1.out; obtain ⟨b0, b1, b2, b3, b4⟩ := HY1.out))
        clear x0 x1 x2 x3 x4 y0 y1 y2 y3 y4 a0 a1 a2 a3 a4 b0 b1 b2 b3 b4
        go_wp2
        go_roundw
        case rel =>
          have hxe := HXE.out
          have hye := HYE.out
          subst hxe
          subst hye
          refine ⟨h + 1, j, by omega, by omega, hjb, by go_num, rfl, HS.out.grown hg KK.out, fun k h1 h2 => ?_, HHI.out⟩
          by_cases e : k = h
          · subst e; rw [show md + m - 1 - k = z by omega]; omega
          · have e1 := HA.out k h (by omega) (by omega) (by omega)
            have e2 := HB.out z (md + m - 1 - k) (by omega) (by omega) (by omega)
            omega
        case measure => simp [intOf]; omega
    · have q3 : decide ((i : Int) < (j : Int)) = false := by simp; omega
      obtain rfl : i = j := by omega
      obtain ⟨en, hen⟩ : ∃ en, en + i = md + m := ⟨md + m - i, by omega⟩
      have q4 : (md : Int) + (m : Int) - (i : Int) = (en : Int) := by omega
      have hcut := fun e he => cut_law d e a m b md i en a m ham hmd1 hmd2 (.inr ⟨hmm, rfl, rfl⟩) hmi hjb hen HA.out HB.out HLO.out HHI.out he
      have HCUT := hide hcut
      clear hcut
      have b1 : a ≤ i := by omega
      have b2 : i ≤ md := by omega
      have b3 : i ≤ m := by omega
      have b4 : m ≤ en := by omega
      have b5 : en ≤ b := by omega
      have b6 : md ≤ en := by omega
      have b7 : md < b := by omega
      have b8 : a < md := by omega
      by_cases r0 : i < m ∧ m < en
      · have t1 : (i : Int) < (m : Int) := by omega
        have t2 : (m : Int) < (en : Int) := by omega
        have hcon := rotate_any g c d i m en (.func (.func 16) #[] #[]) wr hd HS.out.hold r0.1 r0.2 (by omega)
        go_wp2_with fail
        refine hcon.mono ?_
        clear hcon
        rintro e1 w1 ⟨rfl, e, hS1, hP1, hk1⟩
        have HS1 := hide (HS.out.trans hS1)
        have HP1 := hide (permIn_mono _ _ _ _ _ _ b1 b5 hb hP1)
        have HC := hide (HCUT.out e hk1)
        clear hS1 hP1 hk1
        by_cases l0 : a < i ∧ i < md
        · have t3 : (a : Int) < (i : Int) := by omega
          have t4 : (i : Int) < (md : Int) := by omega
          have fz := HS1.out.size
          have hcon := HI.out e a i md w1 (by omega) HS1.out.hold (HS1.out.lt hg) l0.1 l0.2 (by omega) (by omega) HC.out.1 HC.out.2.1
          rw [fz] at hcon
          first
            | (exfalso; omega)
            | (go_wp2_with fail
               refine hcon.mono ?_
               clear hcon
               rintro e2 w2 ⟨rfl, f, hS2, hP2, hA2⟩
               have HS2 := hide (HS1.out.trans hS2)
               have HP2 := hide hP2
               have HA2 := hide hA2
               clear hS2 hP2 hA2
               have ef : ∀ k, md ≤ k → f[k]! = e[k]! := fun k hk => HP2.out.2.1 k (.inr hk)
               have EF := hide ef
               clear ef
               by_cases r1 : md < en ∧ en < b
               · have t5 : (md : Int) < (en : Int) := by omega
                 have t6 : (en : Int) < (b : Int) := by omega
                 have fz := HS2.out.size
                 have hcon := HI.out f md en b w2 (by omega) HS2.out.hold (HS2.out.lt hg) r1.1 r1.2 (by omega) (by omega)
                   (fun p q x y z => by rw [EF.out p x, EF.out q (by omega)]; exact HC.out.2.2.1 p q x y z) (fun p q x y z => by rw [EF.out p (by omega), EF.out q (by omega)]; exact HC.out.2.2.2.1 p q x y z)
                 rw [fz] at hcon
                 first
                   | (exfalso; omega)
                   | (go_wp2_with fail
                      refine hcon.mono ?_
                      clear hcon
                      rintro e3 w3 ⟨rfl, h3, hS3, hP3, hA3⟩
                      have HS3 := hide (HS2.out.trans hS3)
                      have HJ := hide (join_law e f h3 a md b (by omega) (by omega) (by have := HS1.out.size; omega) HC.out.2.2.2.2 HP2.out HA2.out hP3 hA3)
                      clear hS3 hP3 hA3
                      go_wp2
                      go_end0
                      exact ⟨rfl, h3, HS3.out, permIn_trans _ _ _ _ _ HP1.out HJ.out.1, HJ.out.2⟩)
               · have HA3 := hide (asc_whole_l HC.out.2.2.1 HC.out.2.2.2.1 r1 b6 b5)
                 have HJ := hide (join_law e f f a md b (by omega) (by omega) (by have := HS1.out.size; omega) HC.out.2.2.2.2 HP2.out HA2.out (permIn_refl _ _ _) (fun p q x y z => by rw [EF.out p x, EF.out q (by omega)]; exact HA3.out p q x y z))
                 by_cases r10 : md < en
                 · have t5 : (md : Int) < (en : Int) := by omega
                   have t6 : decide ((en : Int) < (b : Int)) = false := by simp; omega
                   first
                     | (exfalso; omega)
                     | (go_wp2
                        go_end0
                        exact ⟨rfl, f, HS2.out, permIn_trans _ _ _ _ _ HP1.out HJ.out.1, HJ.out.2⟩)
                 · have t5 : decide ((md : Int) < (en : Int)) = false := by simp; omega
                   first
                     | (exfalso; omega)
                     | (go_wp2
                        go_end0
                        exact ⟨rfl, f, HS2.out, permIn_trans _ _ _ _ _ HP1.out HJ.out.1, HJ.out.2⟩))
        · have HS2 := HS1
          have HP2 : Hid (PermIn a md e e) := permIn_refl _ _ _
          have HA2 := hide (asc_whole_l HC.out.1 HC.out.2.1 l0 b1 b2)
          by_cases l00 : a < i
          · have t3 : (a : Int) < (i : Int) := by omega
            have t4 : decide ((i : Int) < (md : Int)) = false := by simp; omega
            first
              | (exfalso; omega)
              | (have ef : ∀ k, md ≤ k → e[k]! = e[k]! := fun k hk => HP2.out.2.1 k (.inr hk)
                 have EF := hide ef
                 clear ef
                 by_cases r1 : md < en ∧ en < b
                 · have t5 : (md : Int) < (en : Int) := by omega
                   have t6 : (en : Int) < (b : Int) := by omega
                   have fz := HS2.out.size
                   have hcon := HI.out e md en b w1 (by omega) HS2.out.hold (HS2.out.lt hg) r1.1 r1.2 (by omega) (by omega)
                     (fun p q x y z => by rw [EF.out p x, EF.out q (by omega)]; exact HC.out.2.2.1 p q x y z) (fun p q x y z => by rw [EF.out p (by omega), EF.out q (by omega)]; exact HC.out.2.2.2.1 p q x y z)
                   rw [fz] at hcon
                   first
                     | (exfalso; omega)
                     | (go_wp2_with fail
                        refine hcon.mono ?_
                        clear hcon
                        rintro e3 w3 ⟨rfl, h3, hS3, hP3, hA3⟩
                        have HS3 := hide (HS2.out.trans hS3)
                        have HJ := hide (join_law e e h3 a md b (by omega) (by omega) (by have := HS1.out.size; omega) HC.out.2.2.2.2 HP2.out HA2.out hP3 hA3)
                        clear hS3 hP3 hA3
                        go_wp2
                        go_end0
                        exact ⟨rfl, h3, HS3.out, permIn_trans _ _ _ _ _ HP1.out HJ.out.1, HJ.out.2⟩)
                 · have HA3 := hide (asc_whole_l HC.out.2.2.1 HC.out.2.2.2.1 r1 b6 b5)
                   have HJ := hide (join_law e e e a md b (by omega) (by omega) (by have := HS1.out.size; omega) HC.out.2.2.2.2 HP2.out HA2.out (permIn_refl _ _ _) (fun p q x y z => by rw [EF.out p x, EF.out q (by omega)]; exact HA3.out p q x y z))
                   by_cases r10 : md < en
                   · have t5 : (md : Int) < (en : Int) := by omega
                     have t6 : decide ((en : Int) < (b : Int)) = false := by simp; omega
                     first
                       | (exfalso; omega)
                       | (go_wp2
                          go_end0
                          exact ⟨rfl, e, HS2.out, permIn_trans _ _ _ _ _ HP1.out HJ.out.1, HJ.out.2⟩)
                   · have t5 : decide ((md : Int) < (en : Int)) = false := by simp; omega
                     first
                       | (exfalso; omega)
                       | (go_wp2
                          go_end0
                          exact ⟨rfl, e, HS2.out, permIn_trans _ _ _ _ _ HP1.out HJ.out.1, HJ.out.2⟩))
          · have t3 : decide ((a : Int) < (i : Int)) = false := by simp; omega
            first
              | (exfalso; omega)
              | (have ef : ∀ k, md ≤ k → e[k]! = e[k]! := fun k hk => HP2.out.2.1 k (.inr hk)
                 have EF := hide ef
                 clear ef
                 by_cases r1 : md < en ∧ en < b
                 · have t5 : (md : Int) < (en : Int) := by omega
                   have t6 : (en : Int) < (b : Int) := by omega
                   have fz := HS2.out.size
                   have hcon := HI.out e md en b w1 (by omega) HS2.out.hold (HS2.out.lt hg) r1.1 r1.2 (by omega) (by omega)
                     (fun p q x y z => by rw [EF.out p x, EF.out q (by omega)]; exact HC.out.2.2.1 p q x y z) (fun p q x y z => by rw [EF.out p (by omega), EF.out q (by omega)]; exact HC.out.2.2.2.1 p q x y z)
                   rw [fz] at hcon
                   first
                     | (exfalso; omega)
                     | (go_wp2_with fail
                        refine hcon.mono ?_
                        clear hcon
                        rintro e3 w3 ⟨rfl, h3, hS3, hP3, hA3⟩
                        have HS3 := hide (HS2.out.trans hS3)
                        have HJ := hide (join_law e e h3 a md b (by omega) (by omega) (by have := HS1.out.size; omega) HC.out.2.2.2.2 HP2.out HA2.out hP3 hA3)
                        clear hS3 hP3 hA3
                        go_wp2
                        go_end0
                        exact ⟨rfl, h3, HS3.out, permIn_trans _ _ _ _ _ HP1.out HJ.out.1, HJ.out.2⟩)
                 · have HA3 := hide (asc_whole_l HC.out.2.2.1 HC.out.2.2.2.1 r1 b6 b5)
                   have HJ := hide (join_law e e e a md b (by omega) (by omega) (by have := HS1.out.size; omega) HC.out.2.2.2.2 HP2.out HA2.out (permIn_refl _ _ _) (fun p q x y z => by rw [EF.out p x, EF.out q (by omega)]; exact HA3.out p q x y z))
                   by_cases r10 : md < en
                   · have t5 : (md : Int) < (en : Int) := by omega
                     have t6 : decide ((en : Int) < (b : Int)) = false := by simp; omega
                     first
                       | (exfalso; omega)
                       | (go_wp2
                          go_end0
                          exact ⟨rfl, e, HS2.out, permIn_trans _ _ _ _ _ HP1.out HJ.out.1, HJ.out.2⟩)
                   · have t5 : decide ((md : Int) < (en : Int)) = false := by simp; omega
                     first
                       | (exfalso; omega)
                       | (go_wp2
                          go_end0
                          exact ⟨rfl, e, HS2.out, permIn_trans _ _ _ _ _ HP1.out HJ.out.1, HJ.out.2⟩))
      · have HC := hide (HCUT.out d (fun k => rot_none d i m en r0 b3 b4 k))
        have HP1 : Hid (PermIn a b d d) := permIn_refl _ _ _
        by_cases r00 : i < m
        · have t1 : (i : Int) < (m : Int) := by omega
          have t2 : decide ((m : Int) < (en : Int)) = false := by simp; omega
          by_cases l0 : a < i ∧ i < md
          · have t3 : (a : Int) < (i : Int) := by omega
            have t4 : (i : Int) < (md : Int) := by omega
            have fz := HS.out.size
            have hcon := HI.out d a i md wr (by omega) HS.out.hold (HS.out.lt hg) l0.1 l0.2 (by omega) (by omega) HC.out.1 HC.out.2.1
            rw [fz] at hcon
            first
              | (exfalso; omega)
              | (go_wp2_with fail
                 refine hcon.mono ?_
                 clear hcon
                 rintro e2 w2 ⟨rfl, f, hS2, hP2, hA2⟩
                 have HS2 := hide (HS.out.trans hS2)
                 have HP2 := hide hP2
                 have HA2 := hide hA2
                 clear hS2 hP2 hA2
                 have ef : ∀ k, md ≤ k → f[k]! = d[k]! := fun k hk => HP2.out.2.1 k (.inr hk)
                 have EF := hide ef
                 clear ef
                 by_cases r1 : md < en ∧ en < b
                 · have t5 : (md : Int) < (en : Int) := by omega
                   have t6 : (en : Int) < (b : Int) := by omega
                   have fz := HS2.out.size
                   have hcon := HI.out f md en b w2 (by omega) HS2.out.hold (HS2.out.lt hg) r1.1 r1.2 (by omega) (by omega)
                     (fun p q x y z => by rw [EF.out p x, EF.out q (by omega)]; exact HC.out.2.2.1 p q x y z) (fun p q x y z => by rw [EF.out p (by omega), EF.out q (by omega)]; exact HC.out.2.2.2.1 p q x y z)
                   rw [fz] at hcon
                   first
                     | (exfalso; omega)
                     | (go_wp2_with fail
                        refine hcon.mono ?_
                        clear hcon
                        rintro e3 w3 ⟨rfl, h3, hS3, hP3, hA3⟩
                        have HS3 := hide (HS2.out.trans hS3)
                        have HJ := hide (join_law d f h3 a md b (by omega) (by omega) (by have := HS.out.size; omega) HC.out.2.2.2.2 HP2.out HA2.out hP3 hA3)
                        clear hS3 hP3 hA3
                        go_wp2
                        go_end0
                        exact ⟨rfl, h3, HS3.out, permIn_trans _ _ _ _ _ HP1.out HJ.out.1, HJ.out.2⟩)
                 · have HA3 := hide (asc_whole_l HC.out.2.2.1 HC.out.2.2.2.1 r1 b6 b5)
                   have HJ := hide (join_law d f f a md b (by omega) (by omega) (by have := HS.out.size; omega) HC.out.2.2.2.2 HP2.out HA2.out (permIn_refl _ _ _) (fun p q x y z => by rw [EF.out p x, EF.out q (by omega)]; exact HA3.out p q x y z))
                   by_cases r10 : md < en
                   · have t5 : (md : Int) < (en : Int) := by omega
                     have t6 : decide ((en : Int) < (b : Int)) = false := by simp; omega
                     first
                       | (exfalso; omega)
                       | (go_wp2
                          go_end0
                          exact ⟨rfl, f, HS2.out, permIn_trans _ _ _ _ _ HP1.out HJ.out.1, HJ.out.2⟩)
                   · have t5 : decide ((md : Int) < (en : Int)) = false := by simp; omega
                     first
                       | (exfalso; omega)
                       | (go_wp2
                          go_end0
                          exact ⟨rfl, f, HS2.out, permIn_trans _ _ _ _ _ HP1.out HJ.out.1, HJ.out.2⟩))
          · have HS2 := HS
            have HP2 : Hid (PermIn a md d d) := permIn_refl _ _ _
            have HA2 := hide (asc_whole_l HC.out.1 HC.out.2.1 l0 b1 b2)
            by_cases l00 : a < i
            · have t3 : (a : Int) < (i : Int) := by omega
              have t4 : decide ((i : Int) < (md : Int)) = false := by simp; omega
              first
                | (exfalso; omega)
                | (have ef : ∀ k, md ≤ k → d[k]! = d[k]! := fun k hk => HP2.out.2.1 k (.inr hk)
                   have EF := hide ef
                   clear ef
                   by_cases r1 : md < en ∧ en < b
                   · have t5 : (md : Int) < (en : Int) := by omega
                     have t6 : (en : Int) < (b : Int) := by omega
                     have fz := HS2.out.size
                     have hcon := HI.out d md en b wr (by omega) HS2.out.hold (HS2.out.lt hg) r1.1 r1.2 (by omega) (by omega)
                       (fun p q x y z => by rw [EF.out p x, EF.out q (by omega)]; exact HC.out.2.2.1 p q x y z) (fun p q x y z => by rw [EF.out p (by omega), EF.out q (by omega)]; exact HC.out.2.2.2.1 p q x y z)
                     rw [fz] at hcon
                     first
                       | (exfalso; omega)
                       | (go_wp2_with fail
                          refine hcon.mono ?_
                          clear hcon
                          rintro e3 w3 ⟨rfl, h3, hS3, hP3, hA3⟩
                          have HS3 := hide (HS2.out.trans hS3)
                          have HJ := hide (join_law d d h3 a md b (by omega) (by omega) (by have := HS.out.size; omega) HC.out.2.2.2.2 HP2.out HA2.out hP3 hA3)
                          clear hS3 hP3 hA3
                          go_wp2
                          go_end0
                          exact ⟨rfl, h3, HS3.out, permIn_trans _ _ _ _ _ HP1.out HJ.out.1, HJ.out.2⟩)
                   · have HA3 := hide (asc_whole_l HC.out.2.2.1 HC.out.2.2.2.1 r1 b6 b5)
                     have HJ := hide (join_law d d d a md b (by omega) (by omega) (by have := HS.out.size; omega) HC.out.2.2.2.2 HP2.out HA2.out (permIn_refl _ _ _) (fun p q x y z => by rw [EF.out p x, EF.out q (by omega)]; exact HA3.out p q x y z))
                     by_cases r10 : md < en
                     · have t5 : (md : Int) < (en : Int) := by omega
                       have t6 : decide ((en : Int) < (b : Int)) = false := by simp; omega
                       first
                         | (exfalso; omega)
                         | (go_wp2
                            go_end0
                            exact ⟨rfl, d, HS2.out, permIn_trans _ _ _ _ _ HP1.out HJ.out.1, HJ.out.2⟩)
                     · have t5 : decide ((md : Int) < (en : Int)) = false := by simp; omega
                       first
                         | (exfalso; omega)
                         | (go_wp2
                            go_end0
                            exact ⟨rfl, d, HS2.out, permIn_trans _ _ _ _ _ HP1.out HJ.out.1, HJ.out.2⟩))
            · have t3 : decide ((a : Int) < (i : Int)) = false := by simp; omega
              first
                | (exfalso; omega)
                | (have ef : ∀ k, md ≤ k → d[k]! = d[k]! := fun k hk => HP2.out.2.1 k (.inr hk)
                   have EF := hide ef
                   clear ef
                   by_cases r1 : md < en ∧ en < b
                   · have t5 : (md : Int) < (en : Int) := by omega
                     have t6 : (en : Int) < (b : Int) := by omega
                     have fz := HS2.out.size
                     have hcon := HI.out d md en b wr (by omega) HS2.out.hold (HS2.out.lt hg) r1.1 r1.2 (by omega) (by omega)
                       (fun p q x y z => by rw [EF.out p x, EF.out q (by omega)]; exact HC.out.2.2.1 p q x y z) (fun p q x y z => by rw [EF.out p (by omega), EF.out q (by omega)]; exact HC.out.2.2.2.1 p q x y z)
                     rw [fz] at hcon
                     first
                       | (exfalso; omega)
                       | (go_wp2_with fail
                          refine hcon.mono ?_
                          clear hcon
                          rintro e3 w3 ⟨rfl, h3, hS3, hP3, hA3⟩
                          have HS3 := hide (HS2.out.trans hS3)
                          have HJ := hide (join_law d d h3 a md b (by omega) (by omega) (by have := HS.out.size; omega) HC.out.2.2.2.2 HP2.out HA2.out hP3 hA3)
                          clear hS3 hP3 hA3
                          go_wp2
                          go_end0
                          exact ⟨rfl, h3, HS3.out, permIn_trans _ _ _ _ _ HP1.out HJ.out.1, HJ.out.2⟩)
                   · have HA3 := hide (asc_whole_l HC.out.2.2.1 HC.out.2.2.2.1 r1 b6 b5)
                     have HJ := hide (join_law d d d a md b (by omega) (by omega) (by have := HS.out.size; omega) HC.out.2.2.2.2 HP2.out HA2.out (permIn_refl _ _ _) (fun p q x y z => by rw [EF.out p x, EF.out q (by omega)]; exact HA3.out p q x y z))
                     by_cases r10 : md < en
                     · have t5 : (md : Int) < (en : Int) := by omega
                       have t6 : decide ((en : Int) < (b : Int)) = false := by simp; omega
                       first
                         | (exfalso; omega)
                         | (go_wp2
                            go_end0
                            exact ⟨rfl, d, HS2.out, permIn_trans _ _ _ _ _ HP1.out HJ.out.1, HJ.out.2⟩)
                     · have t5 : decide ((md : Int) < (en : Int)) = false := by simp; omega
                       first
                         | (exfalso; omega)
                         | (go_wp2
                            go_end0
                            exact ⟨rfl, d, HS2.out, permIn_trans _ _ _ _ _ HP1.out HJ.out.1, HJ.out.2⟩))
        · have t1 : decide ((i : Int) < (m : Int)) = false := by simp; omega
          by_cases l0 : a < i ∧ i < md
          · have t3 : (a : Int) < (i : Int) := by omega
            have t4 : (i : Int) < (md : Int) := by omega
            have fz := HS.out.size
            have hcon := HI.out d a i md wr (by omega) HS.out.hold (HS.out.lt hg) l0.1 l0.2 (by omega) (by omega) HC.out.1 HC.out.2.1
            rw [fz] at hcon
            first
              | (exfalso; omega)
              | (go_wp2_with fail
                 refine hcon.mono ?_
                 clear hcon
                 rintro e2 w2 ⟨rfl, f, hS2, hP2, hA2⟩
                 have HS2 := hide (HS.out.trans hS2)
                 have HP2 := hide hP2
                 have HA2 := hide hA2
                 clear hS2 hP2 hA2
                 have ef : ∀ k, md ≤ k → f[k]! = d[k]! := fun k hk => HP2.out.2.1 k (.inr hk)
                 have EF := hide ef
                 clear ef
                 by_cases r1 : md < en ∧ en < b
                 · have t5 : (md : Int) < (en : Int) := by omega
                   have t6 : (en : Int) < (b : Int) := by omega
                   have fz := HS2.out.size
                   have hcon := HI.out f md en b w2 (by omega) HS2.out.hold (HS2.out.lt hg) r1.1 r1.2 (by omega) (by omega)
                     (fun p q x y z => by rw [EF.out p x, EF.out q (by omega)]; exact HC.out.2.2.1 p q x y z) (fun p q x y z => by rw [EF.out p (by omega), EF.out q (by omega)]; exact HC.out.2.2.2.1 p q x y z)
                   rw [fz] at hcon
                   first
                     | (exfalso; omega)
                     | (go_wp2_with fail
                        refine hcon.mono ?_
                        clear hcon
                        rintro e3 w3 ⟨rfl, h3, hS3, hP3, hA3⟩
                        have HS3 := hide (HS2.out.trans hS3)
                        have HJ := hide (join_law d f h3 a md b (by omega) (by omega) (by have := HS.out.size; omega) HC.out.2.2.2.2 HP2.out HA2.out hP3 hA3)
                        clear hS3 hP3 hA3
                        go_wp2
                        go_end0
                        exact ⟨rfl, h3, HS3.out, permIn_trans _ _ _ _ _ HP1.out HJ.out.1, HJ.out.2⟩)
                 · have HA3 := hide (asc_whole_l HC.out.2.2.1 HC.out.2.2.2.1 r1 b6 b5)
                   have HJ := hide (join_law d f f a md b (by omega) (by omega) (by have := HS.out.size; omega) HC.out.2.2.2.2 HP2.out HA2.out (permIn_refl _ _ _) (fun p q x y z => by rw [EF.out p x, EF.out q (by omega)]; exact HA3.out p q x y z))
                   by_cases r10 : md < en
                   · have t5 : (md : Int) < (en : Int) := by omega
                     have t6 : decide ((en : Int) < (b : Int)) = false := by simp; omega
                     first
                       | (exfalso; omega)
                       | (go_wp2
                          go_end0
                          exact ⟨rfl, f, HS2.out, permIn_trans _ _ _ _ _ HP1.out HJ.out.1, HJ.out.2⟩)
                   · have t5 : decide ((md : Int) < (en : Int)) = false := by simp; omega
                     first
                       | (exfalso; omega)
                       | (go_wp2
                          go_end0
                          exact ⟨rfl, f, HS2.out, permIn_trans _ _ _ _ _ HP1.out HJ.out.1, HJ.out.2⟩))
          · have HS2 := HS
            have HP2 : Hid (PermIn a md d d) := permIn_refl _ _ _
            have HA2 := hide (asc_whole_l HC.out.1 HC.out.2.1 l0 b1 b2)
            by_cases l00 : a < i
            · have t3 : (a : Int) < (i : Int) := by omega
              have t4 : decide ((i : Int) < (md : Int)) = false := by simp; omega
              first
                | (exfalso; omega)
                | (have ef : ∀ k, md ≤ k → d[k]! = d[k]! := fun k hk => HP2.out.2.1 k (.inr hk)
                   have EF := hide ef
                   clear ef
                   by_cases r1 : md < en ∧ en < b
                   · have t5 : (md : Int) < (en : Int) := by omega
                     have t6 : (en : Int) < (b : Int) := by omega
                     have fz := HS2.out.size
                     have hcon := HI.out d md en b wr (by omega) HS2.out.hold (HS2.out.lt hg) r1.1 r1.2 (by omega) (by omega)
                       (fun p q x y z => by rw [EF.out p x, EF.out q (by omega)]; exact HC.out.2.2.1 p q x y z) (fun p q x y z => by rw [EF.out p (by omega), EF.out q (by omega)]; exact HC.out.2.2.2.1 p q x y z)
                     rw [fz] at hcon
                     first
                       | (exfalso; omega)
                       | (go_wp2_with fail
                          refine hcon.mono ?_
                          clear hcon
                          rintro e3 w3 ⟨rfl, h3, hS3, hP3, hA3⟩
                          have HS3 := hide (HS2.out.trans hS3)
                          have HJ := hide (join_law d d h3 a md b (by omega) (by omega) (by have := HS.out.size; omega) HC.out.2.2.2.2 HP2.out HA2.out hP3 hA3)
                          clear hS3 hP3 hA3
                          go_wp2
                          go_end0
                          exact ⟨rfl, h3, HS3.out, permIn_trans _ _ _ _ _ HP1.out HJ.out.1, HJ.out.2⟩)
                   · have HA3 := hide (asc_whole_l HC.out.2.2.1 HC.out.2.2.2.1 r1 b6 b5)
                     have HJ := hide (join_law d d d a md b (by omega) (by omega) (by have := HS.out.size; omega) HC.out.2.2.2.2 HP2.out HA2.out (permIn_refl _ _ _) (fun p q x y z => by rw [EF.out p x, EF.out q (by omega)]; exact HA3.out p q x y z))
                     by_cases r10 : md < en
                     · have t5 : (md : Int) < (en : Int) := by omega
                       have t6 : decide ((en : Int) < (b : Int)) = false := by simp; omega
                       first
                         | (exfalso; omega)
                         | (go_wp2
                            go_end0
                            exact ⟨rfl, d, HS2.out, permIn_trans _ _ _ _ _ HP1.out HJ.out.1, HJ.out.2⟩)
                     · have t5 : decide ((md : Int) < (en : Int)) = false := by simp; omega
                       first
                         | (exfalso; omega)
                         | (go_wp2
                            go_end0
                            exact ⟨rfl, d, HS2.out, permIn_trans _ _ _ _ _ HP1.out HJ.out.1, HJ.out.2⟩))
            · have t3 : decide ((a : Int) < (i : Int)) = false := by simp; omega
              first
                | (exfalso; omega)
                | (have ef : ∀ k, md ≤ k → d[k]! = d[k]! := fun k hk => HP2.out.2.1 k (.inr hk)
                   have EF := hide ef
                   clear ef
                   by_cases r1 : md < en ∧ en < b
                   · have t5 : (md : Int) < (en : Int) := by omega
                     have t6 : (en : Int) < (b : Int) := by omega
                     have fz := HS2.out.size
                     have hcon := HI.out d md en b wr (by omega) HS2.out.hold (HS2.out.lt hg) r1.1 r1.2 (by omega) (by omega)
                       (fun p q x y z => by rw [EF.out p x, EF.out q (by omega)]; exact HC.out.2.2.1 p q x y z) (fun p q x y z => by rw [EF.out p (by omega), EF.out q (by omega)]; exact HC.out.2.2.2.1 p q x y z)
                     rw [fz] at hcon
                     first
                       | (exfalso; omega)
                       | (go_wp2_with fail
                          refine hcon.mono ?_
                          clear hcon
                          rintro e3 w3 ⟨rfl, h3, hS3, hP3, hA3⟩
                          have HS3 := hide (HS2.out.trans hS3)
                          have HJ := hide (join_law d d h3 a md b (by omega) (by omega) (by have := HS.out.size; omega) HC.out.2.2.2.2 HP2.out HA2.out hP3 hA3)
                          clear hS3 hP3 hA3
                          go_wp2
                          go_end0
                          exact ⟨rfl, h3, HS3.out, permIn_trans _ _ _ _ _ HP1.out HJ.out.1, HJ.out.2⟩)
                   · have HA3 := hide (asc_whole_l HC.out.2.2.1 HC.out.2.2.2.1 r1 b6 b5)
                     have HJ := hide (join_law d d d a md b (by omega) (by omega) (by have := HS.out.size; omega) HC.out.2.2.2.2 HP2.out HA2.out (permIn_refl _ _ _) (fun p q x y z => by rw [EF.out p x, EF.out q (by omega)]; exact HA3.out p q x y z))
                     by_cases r10 : md < en
                     · have t5 : (md : Int) < (en : Int) := by omega
                       have t6 : decide ((en : Int) < (b : Int)) = false := by simp; omega
                       first
                         | (exfalso; omega)
                         | (go_wp2
                            go_end0
                            exact ⟨rfl, d, HS2.out, permIn_trans _ _ _ _ _ HP1.out HJ.out.1, HJ.out.2⟩)
                     · have t5 : decide ((md : Int) < (en : Int)) = false := by simp; omega
                       first
                         | (exfalso; omega)
                         | (go_wp2
                            go_end0
                            exact ⟨rfl, d, HS2.out, permIn_trans _ _ _ _ _ HP1.out HJ.out.1, HJ.out.2⟩))

/-- symMerge: two ascending halves, merged in place. -/
theorem symMerge_any (g c : Nat) : ∀ n, Merges g c n := by
  intro n
  induction n with
  | zero => intro d a m b w _ _ _ _ _ _ h; omega
  | succ n ih =>
    intro d a m b w hd hH hg ham hmb hb hn hA hB
    by_cases h1 : m = a + 1
    · exact symMerge_left g c d a m b w hd hH hg h1 hmb hb hB
    · by_cases h2 : b = m + 1
      · exact symMerge_right g c d a m b w hd hH hg ham h1 h2 hb hA
      · have hI : Merges g c (b - a) := fun d' a' m' b' w' x1 x2 x3 x4 x5 x6 x7 x8 x9 => ih d' a' m' b' w' x1 x2 x3 x4 x5 x6 (by omega) x8 x9
        by_cases h3 : (a + b) / 2 < m
        · exact symMerge_hi g c d a m b w hI hd hH hg ham hmb h1 h2 hb hA hB ((a + b) / 2) (by omega) (by omega) h3
        · exact symMerge_lo g c d a m b w hI hd hH hg ham hmb h1 h2 hb hA hB ((a + b) / 2) (by omega) (by omega) (by omega)
end Go.Proofs.YbulkatxsFmt.cnt
