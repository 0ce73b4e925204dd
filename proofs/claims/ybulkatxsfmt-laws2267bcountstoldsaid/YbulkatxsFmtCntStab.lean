/-
  Of LawS2267BCounts: slices.SortStableFunc whole.
-/
import Derived.Test.YbulkatxsFmtCntSym
namespace Go.Proofs.YbulkatxsFmt.cnt
open Go.ChangeShapes Go.WideShapes Go.ChangeAt Go.RowKit Go
open Go.Sort (swp PermIn permIn_refl permIn_trans permIn_mono permIn_all swp_permIn swp_other swp_left swp_right size_swp)

/-- from a on to n: runs of s, each ascending -/
inductive Runs (e : Array Hu) (s n : Nat) : Nat → Prop
  | last (a : Nat) : n ≤ a + s → a ≤ n → Asc e a n → Runs e s n a
  | more (a : Nat) : a + s ≤ n → Asc e a (a + s) → Runs e s n (a + s) → Runs e s n a
/-- up to a: runs of s, each ascending -/
inductive Done (e : Array Hu) (s : Nat) : Nat → Prop
  | zero : Done e s 0
  | step (a : Nat) : Done e s a → Asc e a (a + s) → Done e s (a + s)

theorem Asc.same {e f : Array Hu} {a b : Nat} (h : Asc e a b) (hk : ∀ k, a ≤ k → k < b → f[k]! = e[k]!) : Asc f a b := fun p q x y z => by
  rw [hk p x (by omega), hk q (by omega) z]; exact h p q x y z
theorem Done.same {e f : Array Hu} {s a : Nat} (h : Done e s a) (hk : ∀ k, k < a → f[k]! = e[k]!) : Done f s a := by
  induction h with
  | zero => exact .zero
  | step a _ hA ih => exact .step a (ih fun k hk' => hk k (by omega)) (hA.same fun k _ hk' => hk k hk')
theorem Runs.same {e f : Array Hu} {s n a : Nat} (h : Runs e s n a) (hk : ∀ k, a ≤ k → k < n → f[k]! = e[k]!) : Runs f s n a := by
  induction h with
  | last a h1 h2 hA => exact .last a h1 h2 (hA.same hk)
  | more a h1 hA _ ih => exact .more a h1 (hA.same fun k x y => hk k x (by omega)) (ih fun k x y => hk k (by omega) y)
theorem Done.runs {e : Array Hu} {s n a : Nat} (h : Done e s a) : Runs e s n a → a ≤ n → Runs e s n 0 := by
  induction h with
  | zero => exact fun h _ => h
  | step a _ hA ih => exact fun h hn => ih (.more a (by omega) hA h) (by omega)
theorem Runs.head {e : Array Hu} {s n a : Nat} (h : Runs e s n a) (hn : a + s ≤ n) : Asc e a (a + s) ∧ Runs e s n (a + s) := by
  cases h with
  | last _ h1 h2 hA =>
    have : a + s = n := by omega
    rw [this]
    exact ⟨hA, .last n (by omega) (Nat.le_refl _) (fun p q x y z => by omega)⟩
  | more _ h1 hA hR => exact ⟨hA, hR⟩
theorem Runs.all {e : Array Hu} {s n a : Nat} (h : Runs e s n a) (hn : n ≤ a + s) : Asc e a n := by
  cases h with
  | last _ h1 h2 hA => exact hA
  | more _ h1 hA hR => have : a + s = n := by omega
                       rw [← this]; exact hA

set_option maxHeartbeats 8000000 in
set_option maxRecDepth 100000 in
theorem stable_any (g c : Nat) (d : Array Hu) (w : World) (hd : d.size ≤ 1000) (hH : HoldA w g d) (hg : g < w.heap.size) :
    Calls Ybaf.prog 25 #[.slice (some ⟨g, 0, .none⟩) d.size c, .int .i64 d.size, .func (.func 16) #[] #[]] w fun e w' => e = .returned (.tuple #[]) ∧ ∃ e', Srt g w d w' e' ∧ PermIn 0 d.size d e' ∧ Asc e' 0 d.size := by
  have HH := hide hH
  clear hH
  go_enter Ybaf.func25, Ybaf.ntmps25
  go_wp2
  go_loopw [7, 8] (fun p q wr => ∃ (a : Nat) (e : Array Hu), a ≤ d.size ∧ p = .int .i64 a ∧ q = .int .i64 ((a + 20 : Nat) : Int) ∧ Srt g w d wr e ∧ PermIn 0 d.size d e ∧ Done e 20 a) (fun p _ _ => d.size - (intOf p).toNat)
  case atStart => exact ⟨0, d, Nat.zero_le _, rfl, rfl, Srt.refl HH.out, permIn_refl _ _ _, .zero⟩
  case round =>
    obtain ⟨a, e, ha, rfl, rfl, hS, hP, hD⟩ := hrel
    have HS := hide hS
    have HP := hide hP
    have HD := hide hD
    have es := hS.size
    clear hS hP hD
    by_cases hlt : a + 20 ≤ d.size
    · have q0 : (a : Int) + 20 ≤ (d.size : Int) := by omega
      have hcon := insertion_any g c e a (a + 20) wr (by omega) HS.out.hold (HS.out.lt hg) (by omega) (by omega)
      rw [es] at hcon
      go_wp2_with fail
      refine hcon.mono ?_
      clear hcon
      rintro e1 w1 ⟨rfl, f, hS1, hP1, hA1⟩
      have HS1 := hide (HS.out.trans hS1)
      have HP1 := hide hP1
      have HA1 := hide hA1
      clear hS1 hP1 hA1
      go_wp2
      go_roundw
      case rel => exact ⟨a + 20, f, hlt, by go_num, by go_num, HS1.out, permIn_trans _ _ _ _ _ HP.out (permIn_mono _ _ _ _ _ _ (Nat.zero_le _) hlt (by omega) HP1.out), .step a (HD.out.same fun k hk => HP1.out.2.1 k (.inl hk)) HA1.out⟩
      case measure => simp [intOf]; omega
    · have q0 : ¬ (a : Int) + 20 ≤ (d.size : Int) := by omega
      have hcon := insertion_any g c e a d.size wr (by omega) HS.out.hold (HS.out.lt hg) (by omega) (by omega)
      rw [es] at hcon
      go_wp2_with fail
      refine hcon.mono ?_
      clear hcon
      rintro e1 w1 ⟨rfl, f, hS1, hP1, hA1⟩
      have HS1 := hide (HS.out.trans hS1)
      have HP1 := hide (permIn_trans _ _ _ _ _ HP.out (permIn_mono _ _ _ _ _ _ (Nat.zero_le _) (Nat.le_refl _) (by omega) hP1))
      have HR1 : Hid (Runs f 20 d.size 0) := (HD.out.same fun k hk => hP1.2.1 k (.inl hk)).runs (.last a (by omega) ha hA1) ha
      clear hS1 hP1 hA1
      go_wp2
      go_loopw [6] (fun p wr => ∃ (s : Nat) (e : Array Hu), 0 < s ∧ s ≤ 2000 ∧ p = .int .i64 s ∧ Srt g w d wr e ∧ PermIn 0 d.size d e ∧ Runs e s d.size 0) (fun p _ => 2 * d.size - (intOf p).toNat)
      case atStart => exact ⟨20, f, by omega, by omega, rfl, HS1.out, HP1.out, HR1.out⟩
      case round =>
        clear HS HP HD HS1 HP1 HR1 es q0
        obtain ⟨s, e, hs0, hs1, rfl, hS, hP, hR⟩ := hrel
        have HS := hide hS
        have HP := hide hP
        have HR := hide hR
        clear hS hP hR
        by_cases hsn : s < d.size
        · have q1 : (s : Int) < (d.size : Int) := by omega
          go_wp2
          go_loopw [7, 8] (fun p q wr => ∃ (a : Nat) (e : Array Hu), a ≤ d.size ∧ p = .int .i64 a ∧ q = .int .i64 ((a + 2 * s : Nat) : Int) ∧ Srt g w d wr e ∧ PermIn 0 d.size d e ∧ Done e (s + s) a ∧ Runs e s d.size a) (fun p _ _ => d.size - (intOf p).toNat)
          case atStart => exact ⟨0, e, Nat.zero_le _, rfl, by go_num, HS.out, HP.out, .zero, HR.out⟩
          case round =>
            clear HS HP HR
            obtain ⟨a, e, ha, rfl, rfl, hS, hP, hD, hR⟩ := hrel
            have HS := hide hS
            have HP := hide hP
            have HD := hide hD
            have HR := hide hR
            have es := hS.size
            clear hS hP hD hR
            by_cases hlt : a + 2 * s ≤ d.size
            · have q2 : (a : Int) + 2 * (s : Int) ≤ (d.size : Int) := by omega
              obtain ⟨hA1, hR1⟩ := HR.out.head (by omega)
              obtain ⟨hA2, hR2⟩ := hR1.head (by omega)
              have hcon := symMerge_any g c (a + 2 * s + 1) e a (a + s) (a + 2 * s) wr (by omega) HS.out.hold (HS.out.lt hg) (by omega) (by omega) (by omega) (by omega) hA1 (by rw [show a + 2 * s = a + s + s by omega]; exact hA2)
              rw [es] at hcon
              have HR2 := hide hR2
              clear hA1 hR1 hA2 hR2
              go_wp2_with fail
              rw [show (a : Int) + (s : Int) = ((a + s : Nat) : Int) by omega, show (a : Int) + 2 * (s : Int) = ((a + 2 * s : Nat) : Int) by omega]
              refine hcon.mono ?_
              clear hcon
              rintro e2 w2 ⟨rfl, h, hS2, hP2, hA3⟩
              have HS2 := hide (HS.out.trans hS2)
              have HP2 := hide hP2
              have HA3 := hide hA3
              clear hS2 hP2 hA3
              go_wp2
              go_roundw
              case rel =>
                refine ⟨a + 2 * s, h, hlt, by go_num, by go_num, HS2.out, permIn_trans _ _ _ _ _ HP.out (permIn_mono _ _ _ _ _ _ (Nat.zero_le _) hlt (by omega) HP2.out), ?_, ?_⟩
                · rw [show a + 2 * s = a + (s + s) by omega]
                  exact .step a (HD.out.same fun k hk => HP2.out.2.1 k (.inl hk)) (by rw [show a + (s + s) = a + 2 * s by omega]; exact HA3.out)
                · have := HR2.out.same (f := h) fun k hk _ => HP2.out.2.1 k (.inr (by omega))
                  rwa [show a + s + s = a + 2 * s by omega] at this
              case measure => simp [intOf]; omega
            · have q2 : ¬ (a : Int) + 2 * (s : Int) ≤ (d.size : Int) := by omega
              by_cases hm : a + s < d.size
              · have q3 : (a : Int) + (s : Int) < (d.size : Int) := by omega
                obtain ⟨hA1, hR1⟩ := HR.out.head (by omega)
                have hcon := symMerge_any g c (d.size + 1) e a (a + s) d.size wr (by omega) HS.out.hold (HS.out.lt hg) (by omega) (by omega) (by omega) (by omega) hA1 (hR1.all (by omega))
                rw [es] at hcon
                clear hA1 hR1
                go_wp2_with fail
                rw [show (a : Int) + (s : Int) = ((a + s : Nat) : Int) by omega]
                refine hcon.mono ?_
                clear hcon
                rintro e2 w2 ⟨rfl, h, hS2, hP2, hA3⟩
                have HS2 := hide (HS.out.trans hS2)
                have HP2 := hide hP2
                have HA3 := hide hA3
                clear hS2 hP2 hA3
                go_wp2
                go_roundw
                case rel =>
                  refine ⟨s + s, h, by omega, by omega, by go_num, HS2.out, permIn_trans _ _ _ _ _ HP.out (permIn_mono _ _ _ _ _ _ (Nat.zero_le _) (Nat.le_refl _) (by omega) HP2.out), ?_⟩
                  exact (HD.out.same fun k hk => HP2.out.2.1 k (.inl hk)).runs (.last a (by omega) ha HA3.out) ha
                case measure => simp [intOf]; omega
              · have q3 : ¬ (a : Int) + (s : Int) < (d.size : Int) := by omega
                go_wp2
                go_roundw
                case rel => exact ⟨s + s, e, by omega, by omega, by go_num, HS.out, HP.out, HD.out.runs (.last a (by omega) ha (HR.out.all (by omega))) ha⟩
                case measure => simp [intOf]; omega
        · have q1 : ¬ (s : Int) < (d.size : Int) := by omega
          go_wp2
          go_end0
          exact ⟨rfl, e, HS.out, HP.out, by have := HR.out.all (by omega); exact this⟩

set_option maxHeartbeats 1000000 in
set_option maxRecDepth 100000 in
theorem sort_any (g c : Nat) (d : Array Hu) (w : World) (hd : d.size ≤ 1000) (hH : HoldA w g d) (hg : g < w.heap.size) :
    Calls Ybaf.prog 15 #[.slice (some ⟨g, 0, .none⟩) d.size c, .func (.func 16) #[] #[]] w fun e w' => e = .returned (.tuple #[]) ∧ ∃ e', Srt g w d w' e' ∧ PermIn 0 d.size d e' ∧ Asc e' 0 d.size := by
  have hcon := stable_any g c d w hd hH hg
  clear hH
  go_enter Ybaf.func15, Ybaf.ntmps15
  go_wp2_with fail
  refine hcon.mono ?_
  clear hcon
  rintro e w1 ⟨rfl, e', hS, hP, hA⟩
  have HX := hide (And.intro hS (And.intro hP hA))
  clear hS hP hA
  go_wp2
  go_end0
  exact ⟨rfl, e', HX.out⟩

set_option maxHeartbeats 1000000 in
set_option maxRecDepth 100000 in
theorem insertion_none (w : World) : Calls Ybaf.prog 33 #[.slice .none 0 0, .int .i64 0, .int .i64 0, .func (.func 16) #[] #[]] w fun e w' => e = .returned (.tuple #[]) ∧ w' = w := by
  go_enter Ybaf.func33, Ybaf.ntmps33
  go_wp2
  refine wp_loop_rounds 1 ?_
  rw [rounds_succ]
  go_wp2
  go_end0
  exact ⟨rfl, rfl⟩

set_option maxHeartbeats 1000000 in
set_option maxRecDepth 100000 in
theorem stable_none (w : World) : Calls Ybaf.prog 25 #[.slice .none 0 0, .int .i64 0, .func (.func 16) #[] #[]] w fun e w' => e = .returned (.tuple #[]) ∧ w' = w := by
  go_enter Ybaf.func25, Ybaf.ntmps25
  go_wp2
  refine wp_loop_rounds 1 ?_
  rw [rounds_succ]
  go_wp2_with (go_at_call 33; refine (insertion_none _).mono ?_; rintro e w' ⟨rfl, rfl⟩)
  refine wp_loop_rounds 1 ?_
  rw [rounds_succ]
  go_wp2
  go_end0
  exact ⟨rfl, rfl⟩

set_option maxHeartbeats 1000000 in
set_option maxRecDepth 100000 in
theorem sort_none (w : World) : Calls Ybaf.prog 15 #[.slice .none 0 0, .func (.func 16) #[] #[]] w fun e w' => e = .returned (.tuple #[]) ∧ w' = w := by
  go_enter Ybaf.func15, Ybaf.ntmps15
  go_wp2_with (go_at_call 25; refine (stable_none _).mono ?_; rintro e w' ⟨rfl, rfl⟩)
  go_end0
  exact ⟨rfl, rfl⟩
end Go.Proofs.YbulkatxsFmt.cnt
