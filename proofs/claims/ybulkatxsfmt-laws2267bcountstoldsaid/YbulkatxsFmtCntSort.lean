/-
  Of LawS2267BCounts: slices.SortStableFunc: the exchanges.
-/
import Derived.Test.YbulkatxsFmtCntOf
import Derived.Sort.Lot0
namespace Go.Proofs.YbulkatxsFmt.cnt
open Go.ChangeShapes Go.WideShapes Go.ChangeAt Go.RowKit Go
open Go.Sort (swp PermIn permIn_refl permIn_trans permIn_mono permIn_all swp_permIn swp_other swp_left swp_right size_swp)

instance : Inhabited Hu := ⟨⟨0, 0, 0⟩⟩

/-- Block g holds the uses d, and may be written. -/
def HoldA (w : World) (g : Nat) (d : Array Hu) : Prop := (∀ k, k < d.size → HuAt w g (k * 5) d[k]!) ∧ ∀ j, w.frozen? ⟨g, j, .none⟩ = false

theorem HuAt.set_other {w : World} {g o : Nat} {h : Hu} (H : HuAt w g o h) (p : Nat) (v : Value) (hp : p < o ∨ o + 4 < p) : HuAt (w.setCell ⟨g, p, .none⟩ v) g o h := by
  obtain ⟨h0, h1, h2, h3, h4⟩ := H
  refine ⟨?_, ?_, ?_, ?_, ?_⟩ <;> (rw [World.cell?_setCell_other _ _ _ _ (by intro e; injection e with e1 e2; omega)]; assumption)

def put5 (w : World) (g o : Nat) (h : Hu) : World := ((((w.setCell ⟨g, o, .none⟩ (.int .i32 h.a)).setCell ⟨g, o + 1, .none⟩ (.int .i32 h.i)).setCell ⟨g, o + 2, .none⟩ (.int .u32 0)).setCell ⟨g, o + 3, .none⟩ (.int .u32 0)).setCell ⟨g, o + 4, .none⟩ (.int .u32 h.c)

theorem put5_other {w : World} {g o p : Nat} {h k : Hu} (H : HuAt w g p k) (hp : p + 4 < o ∨ o + 4 < p) : HuAt (put5 w g o h) g p k := by
  unfold put5
  exact ((((H.set_other _ _ (by omega)).set_other _ _ (by omega)).set_other _ _ (by omega)).set_other _ _ (by omega)).set_other _ _ (by omega)

theorem put5_same {w : World} {g o : Nat} {h k : Hu} (H : HuAt w g o k) : HuAt (put5 w g o h) g o h := by
  obtain ⟨h0, h1, h2, h3, h4⟩ := H
  unfold put5
  have ne : ∀ (a b : Nat), a ≠ b → (⟨g, a, .none⟩ : Addr) ≠ ⟨g, b, .none⟩ := fun a b hab e => by injection e with e1 e2; exact hab e2
  refine ⟨?_, ?_, ?_, ?_, ?_⟩
  · rw [World.cell?_setCell_other _ _ _ _ (ne _ _ (by omega)), World.cell?_setCell_other _ _ _ _ (ne _ _ (by omega)), World.cell?_setCell_other _ _ _ _ (ne _ _ (by omega)), World.cell?_setCell_other _ _ _ _ (ne _ _ (by omega))]
    exact World.cell?_setCell_same _ _ _ h0
  · rw [World.cell?_setCell_other _ _ _ _ (ne _ _ (by omega)), World.cell?_setCell_other _ _ _ _ (ne _ _ (by omega)), World.cell?_setCell_other _ _ _ _ (ne _ _ (by omega))]
    exact World.cell?_setCell_same _ _ _ (by rw [World.cell?_setCell_other _ _ _ _ (ne _ _ (by omega))]; exact h1)
  · rw [World.cell?_setCell_other _ _ _ _ (ne _ _ (by omega)), World.cell?_setCell_other _ _ _ _ (ne _ _ (by omega))]
    exact World.cell?_setCell_same _ _ _ (by rw [World.cell?_setCell_other _ _ _ _ (ne _ _ (by omega)), World.cell?_setCell_other _ _ _ _ (ne _ _ (by omega))]; exact h2)
  · rw [World.cell?_setCell_other _ _ _ _ (ne _ _ (by omega))]
    exact World.cell?_setCell_same _ _ _ (by rw [World.cell?_setCell_other _ _ _ _ (ne _ _ (by omega)), World.cell?_setCell_other _ _ _ _ (ne _ _ (by omega)), World.cell?_setCell_other _ _ _ _ (ne _ _ (by omega))]; exact h3)
  · exact World.cell?_setCell_same _ _ _ (by rw [World.cell?_setCell_other _ _ _ _ (ne _ _ (by omega)), World.cell?_setCell_other _ _ _ _ (ne _ _ (by omega)), World.cell?_setCell_other _ _ _ _ (ne _ _ (by omega)), World.cell?_setCell_other _ _ _ _ (ne _ _ (by omega))]; exact h4)

theorem put5_frozen (w : World) (g o : Nat) (h : Hu) (p : Addr) : (put5 w g o h).frozen? p = w.frozen? p := by
  unfold put5
  simp only [World.frozen?_setCell]

theorem put5_keep {w w' : World} {g : Nat} (k : Keep (fun i => i = g) w w') (o : Nat) (h : Hu) : Keep (fun i => i = g) w (put5 w' g o h) := by
  unfold put5
  exact ((((k.setCell (p := ⟨g, o, .none⟩) (fun _ => rfl) _).setCell (p := ⟨g, o + 1, .none⟩) (fun _ => rfl) _).setCell (p := ⟨g, o + 2, .none⟩) (fun _ => rfl) _).setCell (p := ⟨g, o + 3, .none⟩) (fun _ => rfl) _).setCell (p := ⟨g, o + 4, .none⟩) (fun _ => rfl) _

theorem HoldA.swap {w : World} {g : Nat} {d : Array Hu} (H : HoldA w g d) (i j : Nat) (hi : i < d.size) (hj : j < d.size) (hij : i ≠ j) : HoldA (put5 (put5 w g (i * 5) d[j]!) g (j * 5) d[i]!) g (swp d i j) := by
  refine ⟨fun k hk => ?_, fun p => by rw [put5_frozen, put5_frozen]; exact H.2 p⟩
  rw [size_swp] at hk
  by_cases h1 : k = j
  · subst h1
    rw [swp_right d i k hj]
    exact put5_same (put5_other (H.1 k hk) (by omega))
  · by_cases h2 : k = i
    · subst h2
      rw [swp_left d k j hi hij]
      exact put5_other (put5_same (H.1 k hk)) (by omega)
    · rw [swp_other d i j k h2 h1]
      exact put5_other (put5_other (H.1 k hk) (by omega)) (by omega)

theorem HoldA.drew {w : World} {g : Nat} {d : Array Hu} (H : HoldA w g d) : HoldA w.drew g d := H
theorem HoldA.keep {S : Nat → Prop} {w w' : World} {g : Nat} {d : Array Hu} (H : HoldA w g d) (k : Keep S w w') (hg : ¬ S g) (hlt : g < w.heap.size) : HoldA w' g d :=
  ⟨fun i hi => (H.1 i hi).keep k hg, fun j => (k.frozen (p := ⟨g, j, .none⟩) hlt hg).trans (H.2 j)⟩

/-- the exchange of two apart ranges of n, as far as done -/
def swapR (f : Nat → Hu) (a b n : Nat) (k : Nat) : Hu := if a ≤ k ∧ k < a + n then f (k - a + b) else if b ≤ k ∧ k < b + n then f (k - b + a) else f k

theorem swapR_succ (d e : Array Hu) (a b i : Nat) (hab : a + i < b) (hb : b + i < d.size) (hs : e.size = d.size) (h : ∀ k, e[k]! = swapR (fun k => d[k]!) a b i k) (k : Nat) : (swp e (a + i) (b + i))[k]! = swapR (fun k => d[k]!) a b (i + 1) k := by
  by_cases h1 : k = a + i
  · subst h1
    rw [swp_left e _ _ (by omega) (by omega), h]
    unfold swapR
    rw [if_neg (by omega), if_neg (by omega), if_pos (by omega)]
    show d[b + i]! = d[a + i - a + b]!
    rw [show a + i - a + b = b + i by omega]
  · by_cases h2 : k = b + i
    · subst h2
      rw [swp_right e _ _ (by omega), h]
      unfold swapR
      rw [if_neg (by omega), if_neg (by omega), if_neg (by omega), if_pos (by omega)]
      show d[a + i]! = d[b + i - b + a]!
      rw [show b + i - b + a = a + i by omega]
    · rw [swp_other e _ _ _ h1 h2, h]
      unfold swapR
      have e1 : (a ≤ k ∧ k < a + (i + 1)) ↔ (a ≤ k ∧ k < a + i) := by omega
      have e2 : (b ≤ k ∧ k < b + (i + 1)) ↔ (b ≤ k ∧ k < b + i) := by omega
      simp only [e1, e2]

/-- d has been turned into e, in place -/
structure Srt (g : Nat) (w : World) (d : Array Hu) (w' : World) (e : Array Hu) : Prop where
  keep : Keep (fun i => i = g) w w'
  hold : HoldA w' g e
  size : e.size = d.size

theorem Srt.refl {g : Nat} {w : World} {d : Array Hu} (H : HoldA w g d) : Srt g w d w d := ⟨Keep.refl _ _, H, rfl⟩
theorem Srt.trans {g : Nat} {w w1 w2 : World} {d e f : Array Hu} (h : Srt g w d w1 e) (k : Srt g w1 e w2 f) : Srt g w d w2 f := ⟨h.keep.trans k.keep, k.hold, k.size.trans h.size⟩

set_option maxHeartbeats 4000000 in
set_option maxRecDepth 100000 in
theorem swapRange_any (g c : Nat) (d : Array Hu) (a b n : Nat) (fv : Value) (w : World) (hd : d.size ≤ 1000) (hH : HoldA w g d) (hab : a + n ≤ b) (hb : b + n ≤ d.size) :
    Calls Ybaf.prog 36 #[.slice (some ⟨g, 0, .none⟩) d.size c, .int .i64 a, .int .i64 b, .int .i64 n, fv] w fun e w' => e = .returned (.tuple #[]) ∧ ∃ e', Srt g w d w' e' ∧ PermIn a (b + n) d e' ∧ ∀ k, e'[k]! = swapR (fun k => d[k]!) a b n k := by
  have HH := hide hH
  clear hH
  go_enter Ybaf.func36, Ybaf.ntmps36
  go_wp2
  go_loopw [10] (fun p wr => ∃ (i : Nat) (e : Array Hu), i ≤ n ∧ p = .int .i64 i ∧ Srt g w d wr e ∧ PermIn a (b + n) d e ∧ ∀ k, e[k]! = swapR (fun k => d[k]!) a b i k) (fun p _ => n - (intOf p).toNat)
  case atStart => exact ⟨0, d, Nat.zero_le _, rfl, Srt.refl HH.out, permIn_refl _ _ _, fun k => by unfold swapR; rw [if_neg (by omega), if_neg (by omega)]⟩
  case round =>
    obtain ⟨i, e, hi, rfl, hS, hP, hk⟩ := hrel
    have HS := hide hS
    have HP := hide hP
    have HK := hide hk
    clear hS hP hk
    by_cases hlt : i < n
    · have q0 : (i : Int) < (n : Int) := by omega
      have q1 : (a : Int) + (i : Int) < (d.size : Int) := by omega
      have q2 : (b : Int) + (i : Int) < (d.size : Int) := by omega
      have q3 : (0 : Int) ≤ (a : Int) + (i : Int) := by omega
      have q4 : (0 : Int) ≤ (b : Int) + (i : Int) := by omega
      have es := HS.out.size
      obtain ⟨x0, x1, x2, x3, x4⟩ := HS.out.hold.1 (a + i) (by omega)
      obtain ⟨y0, y1, y2, y3, y4⟩ := HS.out.hold.1 (b + i) (by omega)
      have fz := HS.out.hold.2
      have HE := hide (HS.out.hold.swap (a + i) (b + i) (by omega) (by omega) (by omega))
      clear es
      have ne : a + i ≠ b + i := by omega
      go_wp2
      go_region
      go_wp2
      go_roundw
      case rel =>
        have es := HS.out.size
        exact ⟨i + 1, swp e (a + i) (b + i), by omega, by go_num, ⟨(put5_keep (put5_keep HS.out.keep _ _) _ _).drew, HE.out.drew, by rw [size_swp]; exact es⟩,
          permIn_trans _ _ _ _ _ HP.out (swp_permIn _ _ _ _ _ (by omega) (by omega) (by omega) (by omega) (by omega)), swapR_succ d e a b i (by omega) (by omega) es HK.out⟩
      case measure => simp [intOf]; omega
    · have q0 : ¬ (i : Int) < (n : Int) := by omega
      obtain rfl : i = n := by omega
      go_wp2
      go_end0
      exact ⟨rfl, e, HS.out, HP.out, HK.out⟩

/-- the exchange of two ranges that lie side by side -/
def rot (f : Nat → Hu) (s m e : Nat) (k : Nat) : Hu := if s ≤ k ∧ k < s + (e - m) then f (k + (m - s)) else if s + (e - m) ≤ k ∧ k < e then f (k - (e - m)) else f k

theorem rot_left (f f1 : Nat → Hu) (m i j : Nat) (hi : i ≤ m) (hj : 0 < j) (hij : j < i) (h : ∀ k, f1 k = swapR f (m - i) m j k) (k : Nat) : rot f1 (m - (i - j)) m (m + j) k = rot f (m - i) m (m + j) k := by
  unfold rot
  simp only [h]
  unfold swapR
  repeat' split
  all_goals first | omega | rfl | (congr 1; omega)

theorem rot_right (f f1 : Nat → Hu) (m i j : Nat) (hi : i ≤ m) (hj : 0 < i) (hij : i < j) (h : ∀ k, f1 k = swapR f (m - i) (m + j - i) i k) (k : Nat) : rot f1 (m - i) m (m + (j - i)) k = rot f (m - i) m (m + j) k := by
  unfold rot
  simp only [h]
  unfold swapR
  repeat' split
  all_goals first | omega | rfl | (congr 1; omega)

theorem rot_last (f f1 : Nat → Hu) (m i : Nat) (hi : i ≤ m) (h : ∀ k, f1 k = swapR f (m - i) m i k) (k : Nat) : f1 k = rot f (m - i) m (m + i) k := by
  unfold rot
  simp only [h]
  unfold swapR
  repeat' split
  all_goals first | omega | rfl | (congr 1; omega)

set_option maxHeartbeats 4000000 in
set_option maxRecDepth 100000 in
theorem rotate_any (g c : Nat) (d : Array Hu) (a m b : Nat) (fv : Value) (w : World) (hd : d.size ≤ 1000) (hH : HoldA w g d) (ham : a < m) (hmb : m < b) (hb : b ≤ d.size) :
    Calls Ybaf.prog 35 #[.slice (some ⟨g, 0, .none⟩) d.size c, .int .i64 a, .int .i64 m, .int .i64 b, fv] w fun e w' => e = .returned (.tuple #[]) ∧ ∃ e', Srt g w d w' e' ∧ PermIn a b d e' ∧ ∀ k, e'[k]! = rot (fun k => d[k]!) a m b k := by
  have HH := hide hH
  clear hH
  go_enter Ybaf.func35, Ybaf.ntmps35
  go_wp2
  go_loopw [10, 11] (fun p q wr => ∃ (i j : Nat) (e : Array Hu), 0 < i ∧ 0 < j ∧ a ≤ m - i ∧ i ≤ m ∧ m + j ≤ b ∧ p = .int .i64 i ∧ q = .int .i64 j ∧ Srt g w d wr e ∧ PermIn a b d e ∧ ∀ k, rot (fun k => e[k]!) (m - i) m (m + j) k = rot (fun k => d[k]!) a m b k) (fun p q _ => (intOf p).toNat + (intOf q).toNat)
  case atStart => exact ⟨m - a, b - m, d, by omega, by omega, by omega, by omega, by omega, by go_num, by go_num, Srt.refl HH.out, permIn_refl _ _ _, fun k => by rw [show m - (m - a) = a by omega, show m + (b - m) = b by omega]⟩
  case round =>
    obtain ⟨i, j, e, hi, hj, hai, him, hjb, rfl, rfl, hS, hP, hk⟩ := hrel
    have HS := hide hS
    have HP := hide hP
    have HK := hide hk
    have es := hS.size
    clear hS hP hk
    by_cases hne : i = j
    · subst hne
      have q0 : ((i : Int) == (i : Int)) = true := by simp
      have q0' : ((i : Int) != (i : Int)) = false := by simp
      have hcon := swapRange_any g c e (m - i) m i fv wr (by omega) HS.out.hold (by omega) (by omega)
      rw [es] at hcon
      go_wp2_with fail
      rw [show (m : Int) - (i : Int) = ((m - i : Nat) : Int) by omega]
      refine hcon.mono ?_
      clear hcon
      rintro e1 w1 ⟨rfl, e', hS', hP', hk'⟩
      have HS' := hide hS'
      have HP' := hide hP'
      have HK' := hide hk'
      clear hS' hP' hk'
      go_wp2
      go_end0
      refine ⟨rfl, e', HS.out.trans HS'.out, permIn_trans _ _ _ _ _ HP.out (permIn_mono _ _ _ _ _ _ (by omega) (by omega) (by omega) HP'.out), fun k => ?_⟩
      rw [← HK.out k]
      exact rot_last _ (fun k => e'[k]!) m i (by omega) HK'.out k
    · have q0 : ((i : Int) == (j : Int)) = false := by simp; omega
      have q0' : ((i : Int) != (j : Int)) = true := by simp; omega
      by_cases hlt : j < i
      · have q1 : (j : Int) < (i : Int) := by omega
        have hcon := swapRange_any g c e (m - i) m j fv wr (by omega) HS.out.hold (by omega) (by omega)
        rw [es] at hcon
        go_wp2_with fail
        rw [show (m : Int) - (i : Int) = ((m - i : Nat) : Int) by omega]
        refine hcon.mono ?_
        clear hcon
        rintro e1 w1 ⟨rfl, e', hS', hP', hk'⟩
        have HS' := hide hS'
        have HP' := hide hP'
        have HK' := hide hk'
        clear hS' hP' hk'
        go_wp2
        go_roundw
        case rel =>
          refine ⟨i - j, j, e', by omega, by omega, by omega, by omega, by omega, by go_num, rfl, HS.out.trans HS'.out, permIn_trans _ _ _ _ _ HP.out (permIn_mono _ _ _ _ _ _ (by omega) (by omega) (by omega) HP'.out), fun k => ?_⟩
          rw [← HK.out k]
          exact rot_left _ (fun k => e'[k]!) m i j (by omega) (by omega) (by omega) HK'.out k
        case measure => simp [intOf]; omega
      · have q1 : decide ((j : Int) < (i : Int)) = false := by simp; omega
        have hcon := swapRange_any g c e (m - i) (m + j - i) i fv wr (by omega) HS.out.hold (by omega) (by omega)
        rw [es] at hcon
        go_wp2_with fail
        rw [show (m : Int) - (i : Int) = ((m - i : Nat) : Int) by omega, show (m : Int) + (j : Int) - (i : Int) = ((m + j - i : Nat) : Int) by omega]
        refine hcon.mono ?_
        clear hcon
        rintro e1 w1 ⟨rfl, e', hS', hP', hk'⟩
        have HS' := hide hS'
        have HP' := hide hP'
        have HK' := hide hk'
        clear hS' hP' hk'
        go_wp2
        go_roundw
        case rel =>
          refine ⟨i, j - i, e', by omega, by omega, by omega, by omega, by omega, rfl, by go_num, HS.out.trans HS'.out, permIn_trans _ _ _ _ _ HP.out (permIn_mono _ _ _ _ _ _ (by omega) (by omega) (by omega) HP'.out), fun k => ?_⟩
          rw [← HK.out k]
          exact rot_right _ (fun k => e'[k]!) m i j (by omega) (by omega) (by omega) HK'.out k
        case measure => simp [intOf]; omega
end Go.Proofs.YbulkatxsFmt.cnt
