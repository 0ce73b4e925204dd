/-
  Of LawS2267BCounts: slices.SortStableFunc: the insertion sort.
-/
import Derived.Test.YbulkatxsFmtCntSort
namespace Go.Proofs.YbulkatxsFmt.cnt
open Go.ChangeShapes Go.WideShapes Go.ChangeAt Go.RowKit Go
open Go.Sort (swp PermIn permIn_refl permIn_trans permIn_mono permIn_all swp_permIn swp_other swp_left swp_right size_swp)

/-- ascending on [a, b) -/
def Asc (d : Array Hu) (a b : Nat) : Prop := ∀ p q, a ≤ p → p < q → q < b → d[p]!.i ≤ d[q]!.i

/-- ascending on [a, i] but for what stands at j -/
def Asc1 (d : Array Hu) (a i j : Nat) : Prop := (∀ p q, a ≤ p → p < q → q ≤ i → p ≠ j → q ≠ j → d[p]!.i ≤ d[q]!.i) ∧ ∀ q, j < q → q ≤ i → d[j]!.i ≤ d[q]!.i

theorem Asc1.start {d : Array Hu} {a i : Nat} (h : Asc d a i) : Asc1 d a i i :=
  ⟨fun p q h1 h2 h3 _ h5 => h p q h1 h2 (by omega), fun q h1 h2 => by omega⟩
theorem Asc1.done {d : Array Hu} {a i j : Nat} (h : Asc1 d a i j) (hj : j ≤ i) (hc : j ≤ a ∨ d[j - 1]!.i ≤ d[j]!.i) : Asc d a (i + 1) := by
  intro p q h1 h2 h3
  by_cases e1 : p = j
  · subst e1
    exact h.2 q h2 (by omega)
  · by_cases e2 : q = j
    · subst e2
      rcases hc with hc | hc
      · omega
      · by_cases e3 : p = q - 1
        · subst e3; exact hc
        · exact Nat.le_trans (h.1 p (q - 1) h1 (by omega) (by omega) e1 (by omega)) hc
    · exact h.1 p q h1 h2 (by omega) e1 e2
theorem Asc1.swap {d : Array Hu} {a i j : Nat} (h : Asc1 d a i (j + 1)) (haj : a ≤ j) (hj : j + 1 ≤ i) (hi : i < d.size) (hc : d[j + 1]!.i < d[j]!.i) : Asc1 (swp d (j + 1) j) a i j := by
  have e1 : (swp d (j + 1) j)[j + 1]! = d[j]! := swp_left d _ _ (by omega) (by omega)
  have e2 : (swp d (j + 1) j)[j]! = d[j + 1]! := swp_right d _ _ (by omega)
  refine ⟨fun p q h1 h2 h3 h4 h5 => ?_, fun q h1 h2 => ?_⟩
  · by_cases c1 : p = j + 1
    · subst c1
      rw [e1, swp_other d _ _ _ (by omega) (by omega)]
      exact h.1 j q haj (by omega) h3 (by omega) (by omega)
    · by_cases c2 : q = j + 1
      · subst c2
        rw [e1, swp_other d _ _ _ c1 h4]
        exact h.1 p j h1 (by omega) (by omega) c1 (by omega)
      · rw [swp_other d _ _ _ c1 h4, swp_other d _ _ _ c2 h5]
        exact h.1 p q h1 h2 h3 c1 c2
  · rw [e2]
    by_cases c : q = j + 1
    · subst c
      rw [e1]
      omega
    · rw [swp_other d _ _ _ c (by omega)]
      exact h.2 q (by omega) h2

set_option maxHeartbeats 4000000 in
set_option maxRecDepth 100000 in
theorem insertion_any (g c : Nat) (d : Array Hu) (a b : Nat) (w : World) (hd : d.size ≤ 1000) (hH : HoldA w g d) (hg : g < w.heap.size) (hab : a ≤ b) (hb : b ≤ d.size) :
    Calls Ybaf.prog 33 #[.slice (some ⟨g, 0, .none⟩) d.size c, .int .i64 a, .int .i64 b, .func (.func 16) #[] #[]] w fun e w' => e = .returned (.tuple #[]) ∧ ∃ e', Srt g w d w' e' ∧ PermIn a b d e' ∧ Asc e' a b := by
  have HH := hide hH
  clear hH
  go_enter Ybaf.func33, Ybaf.ntmps33
  go_wp2
  go_loopw [8] (fun p wr => ∃ (i : Nat) (e : Array Hu), a < i ∧ i ≤ b + 1 ∧ p = .int .i64 i ∧ Srt g w d wr e ∧ PermIn a b d e ∧ Asc e a (min i b)) (fun p _ => b + 1 - (intOf p).toNat)
  case atStart => exact ⟨a + 1, d, by omega, by omega, by go_num, Srt.refl HH.out, permIn_refl _ _ _, fun p q h1 h2 h3 => by omega⟩
  case round =>
    obtain ⟨i, e, hai, hib, rfl, hS, hP, hA⟩ := hrel
    have HS := hide hS
    have HP := hide hP
    have HA := hide hA
    clear hS hP hA
    by_cases hlt : i < b
    · have q0 : (i : Int) < (b : Int) := by omega
      go_wp2
      go_loopw [9] (fun p wr => ∃ (j : Nat) (e : Array Hu), a ≤ j ∧ j ≤ i ∧ p = .int .i64 j ∧ Srt g w d wr e ∧ PermIn a b d e ∧ Asc1 e a i j) (fun p _ => (intOf p).toNat)
      case atStart => exact ⟨i, e, by omega, Nat.le_refl _, rfl, HS.out, HP.out, Asc1.start (by have := HA.out; rwa [show min i b = i by omega] at this)⟩
      case round =>
        clear HS HP HA e
        obtain ⟨j, e, haj, hji, rfl, hS, hP, hA⟩ := hrel
        have HS := hide hS
        have HP := hide hP
        have HA := hide hA
        have es := hS.size
        clear hS hP hA
        by_cases hja : a < j
        · obtain ⟨m, hm⟩ : ∃ m, j = m + 1 := ⟨j - 1, by omega⟩
          have q1 : (a : Int) < (j : Int) := by omega
          have q2 : (j : Int) < (d.size : Int) := by omega
          have q3 : (m : Int) < (d.size : Int) := by omega
          have q4 : (0 : Int) ≤ (j : Int) := by omega
          have q5 : (0 : Int) ≤ (m : Int) := by omega
          have q7 : (j : Int) - 1 = (m : Int) := by omega
          have q8 : IntKind.i64.wrap (m : Int) = (m : Int) := by rw [IntKind.wrap_i64]; omega
          have HX := hide (HS.out.hold.1 j (by omega))
          have HY := hide (HS.out.hold.1 m (by omega))
          obtain ⟨x0, x1, x2, x3, x4⟩ := HX.out
          obtain ⟨y0, y1, y2, y3, y4⟩ := HY.out
          obtain ⟨x, hx⟩ : ∃ x, x = e[j]! := ⟨_, rfl⟩
          obtain ⟨y, hy⟩ : ∃ y, y = e[m]! := ⟨_, rfl⟩
          rw [← hx] at x0 x1 x4 HX
          rw [← hy] at y0 y1 y4 HY
          have HXE := hide hx
          have HYE := hide hy
          have HMJ := hide hm
          clear hx hy hm
          by_cases hc : x.i < y.i
          · have q6 : cmpI x.i y.i < 0 := by unfold cmpI; split <;> omega
            go_wp2
            go_region_held3 (fun W => W.cell? ⟨g, j * 5, .none⟩ = some (.int .i32 x.a) ∧ W.cell? ⟨g, j * 5 + 1, .none⟩ = some (.int .i32 x.i) ∧ W.cell? ⟨g, j * 5 + 2, .none⟩ = some (.int .u32 0) ∧ W.cell? ⟨g, j * 5 + 3, .none⟩ = some (.int .u32 0) ∧ W.cell? ⟨g, j * 5 + 4, .none⟩ = some (.int .u32 x.c) ∧ W.cell? ⟨g, m * 5, .none⟩ = some (.int .i32 y.a) ∧ W.cell? ⟨g, m * 5 + 1, .none⟩ = some (.int .i32 y.i) ∧ W.cell? ⟨g, m * 5 + 2, .none⟩ = some (.int .u32 0) ∧ W.cell? ⟨g, m * 5 + 3, .none⟩ = some (.int .u32 0) ∧ W.cell? ⟨g, m * 5 + 4, .none⟩ = some (.int .u32 y.c))
              (go_keep)
              (first | (go_at_call 16; refine (cmp_any x y _).mono ?_; rintro e1 w1 ⟨rfl, hk1⟩; have KK : Hid (Keep No wr w1) := (Keep.refl No wr).drew.trans hk1; clear hk1; have HX1 := hide (HX.out.keep KK.out (fun h => h)); have HY1 := hide (HY.out.keep KK.out (fun h => h)); obtain ⟨a0, a1, a2, a3, a4⟩ := HX1.out; obtain ⟨b0, b1, b2, b3, b4⟩ := HY1.out))
            clear x0 x1 x2 x3 x4 y0 y1 y2 y3 y4
            have fz := (HS.out.hold.keep KK.out (fun h => h) (Nat.lt_of_lt_of_le hg HS.out.keep.size)).2
            have HE := hide ((HS.out.hold.keep KK.out (fun h => h) (Nat.lt_of_lt_of_le hg HS.out.keep.size)).swap j m (by omega) (by omega) (by have := HMJ.out; omega))
            have ne : j ≠ m := by have := HMJ.out; omega
            go_wp2
            go_region
            go_wp2
            go_roundw
            case rel =>
              have hxe := HXE.out
              have hye := HYE.out
              have hmj := HMJ.out
              subst hmj
              subst hxe
              subst hye
              exact ⟨m, swp e (m + 1) m, by omega, by omega, by go_num, ⟨(put5_keep (put5_keep (HS.out.keep.then KK.out (fun _ _ h => h.elim)) _ _) _ _).drew, HE.out.drew, by rw [size_swp]; exact es⟩,
                permIn_trans _ _ _ _ _ HP.out (swp_permIn _ _ _ _ _ (by omega) (by omega) (by omega) (by omega) (by omega)), HA.out.swap (by omega) hji (by omega) hc⟩
            case measure => simp [intOf]; omega
          · have q6 : decide (cmpI x.i y.i < 0) = false := by unfold cmpI; simp; split <;> (try split) <;> omega
            go_wp2
            go_region_held3 (fun W => W.cell? ⟨g, j * 5, .none⟩ = some (.int .i32 x.a) ∧ W.cell? ⟨g, j * 5 + 1, .none⟩ = some (.int .i32 x.i) ∧ W.cell? ⟨g, j * 5 + 2, .none⟩ = some (.int .u32 0) ∧ W.cell? ⟨g, j * 5 + 3, .none⟩ = some (.int .u32 0) ∧ W.cell? ⟨g, j * 5 + 4, .none⟩ = some (.int .u32 x.c) ∧ W.cell? ⟨g, m * 5, .none⟩ = some (.int .i32 y.a) ∧ W.cell? ⟨g, m * 5 + 1, .none⟩ = some (.int .i32 y.i) ∧ W.cell? ⟨g, m * 5 + 2, .none⟩ = some (.int .u32 0) ∧ W.cell? ⟨g, m * 5 + 3, .none⟩ = some (.int .u32 0) ∧ W.cell? ⟨g, m * 5 + 4, .none⟩ = some (.int .u32 y.c))
              (go_keep)
              (first | (go_at_call 16; refine (cmp_any x y _).mono ?_; rintro e1 w1 ⟨rfl, hk1⟩; have KK : Hid (Keep No wr w1) := (Keep.refl No wr).drew.trans hk1; clear hk1; have HX1 := hide (HX.out.keep KK.out (fun h => h)); have HY1 := hide (HY.out.keep KK.out (fun h => h)); obtain ⟨a0, a1, a2, a3, a4⟩ := HX1.out; obtain ⟨b0, b1, b2, b3, b4⟩ := HY1.out))
            clear x0 x1 x2 x3 x4 y0 y1 y2 y3 y4
            go_wp2
            go_roundw
            case rel =>
              have hxe := HXE.out
              have hye := HYE.out
              have hmj := HMJ.out
              subst hmj
              subst hxe
              subst hye
              refine ⟨i + 1, e, by omega, by omega, by go_num, ⟨HS.out.keep.then KK.out (fun _ _ h => h.elim), HS.out.hold.keep KK.out (fun h => h) (Nat.lt_of_lt_of_le hg HS.out.keep.size), es⟩, HP.out, ?_⟩
              rw [show min (i + 1) b = i + 1 by omega]
              exact HA.out.done hji (.inr (by rw [show m + 1 - 1 = m by omega]; omega))
            case measure => simp [intOf]; omega
        · have q1 : decide ((a : Int) < (j : Int)) = false := by simp; omega
          go_wp2
          go_quiet (fail)
          go_wp2
          go_roundw
          case rel =>
            refine ⟨i + 1, e, by omega, by omega, by go_num, ⟨HS.out.keep.drewN _, HS.out.hold, es⟩, HP.out, ?_⟩
            rw [show min (i + 1) b = i + 1 by omega]
            exact HA.out.done hji (.inl (by omega))
          case measure => simp [intOf]; omega
    · have q0 : ¬ (i : Int) < (b : Int) := by omega
      go_wp2
      go_end0
      exact ⟨rfl, e, HS.out, HP.out, by have := HA.out; rwa [show min i b = b by omega] at this⟩
end Go.Proofs.YbulkatxsFmt.cnt
