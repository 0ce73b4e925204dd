/-
  Of LawS2262ATwinFlag: the walk of the law itself.
-/
import Derived.Test.YbulkatvaFmtTwinInv
namespace Go.Proofs.YbulkatvaFmt.twin
open Go.ChangeShapes Go.WideShapes Go.ChangeAt Go.RowKit Go
open Go.Extern.Stop Go.Stop Go.Extern

theorem Inv2.setTw {w wr : World} {m n : Nat} (h : Inv2 w m n wr) (k : Nat) (x : Int) (hx : x < n) : Inv2 w m n (wr.setCell ⟨w.heap.size + 1 + 1, k, .none⟩ (.int .i64 x)) :=
  h.set _ _ _ (by omega) (fun e => by omega) (fun k e => by omega) (fun k e => by omega) (fun k e => by omega) (fun _ => ⟨x, rfl, hx⟩)
theorem Inv2.step {w wr : World} {m n : Nat} (h : Inv2 w m n wr) (k : Nat) (l p x : Int) (hp0 : 0 ≤ p) (hp : p < m) (hx : x < n) :
    Inv2 w m n ((((wr.setCell ⟨w.heap.size + 1, k * 3, .none⟩ (.int .i64 l)).setCell ⟨w.heap.size + 1, k * 3 + 1, .none⟩ (.int .i64 p)).setCell ⟨w.heap.size + 1, k * 3 + 2, .none⟩ (.slice .none 0 0)).setCell ⟨w.heap.size + 1 + 1, k, .none⟩ (.int .i64 x)) := by
  refine Inv2.setTw ?_ k x hx
  refine Inv2.set ?_ _ _ _ (by omega) (fun e => by omega) (fun k e _ => by omega) (fun k e _ => by omega) (fun k e _ => rfl) (fun _ => by omega)
  refine Inv2.set ?_ _ _ _ (by omega) (fun e => by omega) (fun k e _ => by omega) (fun k e _ => ⟨p.toNat, by rw [Int.toNat_of_nonneg hp0], by omega⟩) (fun k e _ => by omega) (fun _ => by omega)
  exact Inv2.set h _ _ _ (by omega) (fun e => by omega) (fun k e _ => ⟨l, rfl⟩) (fun k e _ => by omega) (fun k e _ => by omega) (fun _ => by omega)

/-- the log and the checker, as they lie in memory -/
def LOG (H m n : Nat) : Obj := .cells #[.slice (some ⟨H, 0, .none⟩) m m, .slice (some ⟨H + 1, 0, .none⟩) n n, .int .i64 0] 35
def CHK (H n : Nat) : Obj := .cells #[.pointer (some ⟨H + 1 + 1 + 1, 0, .none⟩), .slice .none 0 0, .slice .none 0 0, .slice .none 0 0, .slice .none 0 0, .slice (some ⟨H + 1 + 1, 0, .none⟩) n n, .slice .none 0 0, .slice .none 0 0, .slice .none 0 0, .slice .none 0 0] 41

theorem log_at {w wr : World} {m n : Nat} (h : Inv2 w m n wr) : ((wr.alloc (LOG w.heap.size m n)).alloc (CHK w.heap.size n)).heap[w.heap.size + 1 + 1 + 1]? = some (LOG w.heap.size m n) := by
  have hs := h.size
  rw [Below.heap_alloc _ _ _ (by simp; omega), ← hs]
  exact heap_alloc_new _ _
theorem chk_at {w wr : World} {m n : Nat} (h : Inv2 w m n wr) : ((wr.alloc (LOG w.heap.size m n)).alloc (CHK w.heap.size n)).heap[w.heap.size + 1 + 1 + 1 + 1]? = some (CHK w.heap.size n) := by
  have hs := h.size
  have e : (wr.alloc (LOG w.heap.size m n)).heap.size = w.heap.size + 1 + 1 + 1 + 1 := by simp [hs]
  rw [← e]
  exact heap_alloc_new _ _
theorem old_at {w wr : World} {m n : Nat} (h : Inv2 w m n wr) {b o : Nat} {v : Value} (hb : b < w.heap.size + 1 + 1 + 1) (hv : wr.cell? ⟨b, o, .none⟩ = some v) : ((wr.alloc (LOG w.heap.size m n)).alloc (CHK w.heap.size n)).cell? ⟨b, o, .none⟩ = some v := by
  have hs := h.size
  rw [World.cell?_of_block (w := wr) (by show ((wr.alloc (LOG w.heap.size m n)).alloc (CHK w.heap.size n)).heap[b]? = _; rw [Below.heap_alloc _ _ _ (by simp; omega), Below.heap_alloc _ _ _ (by omega)])]
  exact hv

theorem here_no {w wr : World} {m n ix : Nat} {x : Int} (h : Inv2 w m n wr) (hix : ix < n) (hx : wr.cell? ⟨w.heap.size + 1 + 1, ix, .none⟩ = some (.int .i64 x)) (hneg : x < 0) :
    Calls Ybaf.prog 7 #[.pointer (some ⟨w.heap.size + 1 + 1 + 1 + 1, 0, .none⟩), .int .i64 ix] ((wr.alloc (LOG w.heap.size m n)).alloc (CHK w.heap.size n)) fun e w' => e = .returned (.tuple #[.string ⟨#[]⟩, .bool false]) ∧ (wr.alloc (LOG w.heap.size m n)).alloc (CHK w.heap.size n) = w' := by
  have hc := chk_at h
  refine (same_no (w.heap.size + 1 + 1 + 1 + 1) (w.heap.size + 1 + 1) n n ix x _ (by unfold World.cell?; rw [hc]; rfl) hix (old_at h (by omega) hx) hneg).mono ?_
  rintro e w' ⟨h1, h2⟩
  exact ⟨h1, h2.symm⟩

theorem here_yes (F : Interp) {w wr : World} {m n ix : Nat} {x : Nat} (h : Inv2 w m n wr) (hF : F.answers w.tape) (hix : ix < n) (hx : wr.cell? ⟨w.heap.size + 1 + 1, ix, .none⟩ = some (.int .i64 x)) (hxn : x < n) :
    Calls Ybaf.prog 7 #[.pointer (some ⟨w.heap.size + 1 + 1 + 1 + 1, 0, .none⟩), .int .i64 ix] ((wr.alloc (LOG w.heap.size m n)).alloc (CHK w.heap.size n)) fun e w' => ∃ t : ByteArray, e = .returned (.tuple #[.string t, .bool true]) ∧ Below (w.heap.size + 1 + 1 + 1) wr w' := by
  have hc := chk_at h
  have hl := log_at h
  have hs := h.size
  obtain ⟨⟨_, v0, l, rfl⟩, _⟩ := h.ev0 x hxn
  obtain ⟨⟨_, v1, p, rfl, hp⟩, _⟩ := h.ev1 x hxn
  obtain ⟨⟨_, v2, rfl⟩, _⟩ := h.ev2 x hxn
  obtain ⟨⟨_, v3, s, rfl⟩, _⟩ := h.nm p hp
  refine (same_yes F (w.heap.size + 1 + 1 + 1 + 1) (w.heap.size + 1 + 1) n n ix x (w.heap.size + 1 + 1 + 1) w.heap.size m m (w.heap.size + 1) n p l s _ (by show F.answers wr.tape; rw [h.bel.tape]; exact hF)
    (by unfold World.cell?; rw [hc]; rfl) hix (old_at h (by omega) hx) hxn (by unfold World.cell?; rw [hc]; rfl) (by unfold World.cell?; rw [hl]; rfl) (by unfold World.cell?; rw [hl]; rfl) hp
    (old_at h (by omega) v3) (old_at h (by omega) v0) (old_at h (by omega) v1) (old_at h (by omega) v2)).mono ?_
  rintro e w' ⟨t, h1, h2⟩
  exact ⟨t, h1, (((Below.refl _ wr).alloc (by omega) _).alloc (by simp; omega) _).trans (h2.mono (by simp; omega))⟩

set_option maxHeartbeats 4000000 in
set_option maxRecDepth 100000 in
theorem walk_mid (F : Interp) (b0 o0 n c0 : Nat) (a1 : Option Addr) (l1 c1 : Nat) (a2 a3 : Int) (m : Nat) (ix : Nat) (w : World) (hF : F.answers w.tape) (hn0 : n ≠ 0) (hn : n ≤ 1024) (h2 : 0 ≤ a2) (h2' : a2 ≤ 255) (h3 : 0 ≤ a3) (hm : a2 % 4 = (m : Int)) (hm3 : m ≤ 3)
    (hix : Hid (a3 % (n : Int) = (ix : Int))) (hixn : ix < n)
    (hp : ∀ k, k < n → ∃ v : Nat, v < 256 ∧ w.cell? ⟨b0, o0 + k, .none⟩ = some (.int .u8 v)) (hb0 : b0 < w.heap.size)
    (ht : ∀ k, k < l1 → ∃ b1 o1, a1 = some ⟨b1, o1, .none⟩ ∧ b1 < w.heap.size ∧ ∃ v : Int, w.cell? ⟨b1, o1 + k, .none⟩ = some (.int .i64 v)) :
    Calls Ybaf.prog 3 #[.slice (some ⟨b0, o0, .none⟩) n c0, .slice a1 l1 c1, .int .u8 a2, .int .u64 a3] w fun e w' => e = .returned (.bool true) ∧ Below w.heap.size w w' := by
  have hn0' : ((n : Int) == 0) = false := by simpa using hn0
  have hbig : decide ((1024 : Int) < (n : Int)) = false := by simp; omega
  have hmm := makeNames m hm3
  rw [← hm] at hmm
  have hm1 : 0 ≤ a2 % 4 := by omega
  have hm2 : a2 % 4 ≤ 3 := by omega
  have HMM := hide hm
  clear hm
  have hme := makeEvents n hn
  have hmi := makeInts n hn
  have HP := hide hp
  have HT := hide ht
  have HF := hide hF
  clear hp ht hF
  go_enter Ybaf.func3, Ybaf.ntmps3
  go_wp2
  go_loopw [12] (fun p wr => ∃ k : Nat, k ≤ m + 1 ∧ p = .int .i64 k ∧ Inv1 w (m + 1) wr) (fun p _ => m + 1 - (intOf p).toNat)
  case atStart => exact ⟨0, Nat.zero_le _, rfl, inv1_start w (m + 1)⟩
  case round =>
    obtain ⟨k, hk, rfl, hinv⟩ := hrel
    by_cases hlt : k < m + 1
    · have HI := hide hinv
      obtain ⟨⟨v, hv, s, rfl⟩, hf⟩ := hinv.nm k hlt
      clear hinv
      have q0 : (0 : Int) ≤ (k : Int) := by omega
      have q1 : (k : Int) < a2 % 4 + 1 := by rw [HMM.out]; omega
      go_wp2_with (go_at_call 6; refine (name_any _ _).mono ?_; rintro e w' ⟨t, rfl, rfl⟩)
      go_roundw
      case rel => exact ⟨k + 1, by omega, by go_num, HI.out.set k t⟩
      case measure => simp [intOf]; omega
    · have HI := hide hinv
      have hsz := hinv.size
      have q1 : ¬ (k : Int) < a2 % 4 + 1 := by rw [HMM.out]; omega
      clear hinv
      go_wp2
      go_loopw [15] (fun p wr => ∃ k : Nat, k ≤ n ∧ p = .int .i64 k ∧ Inv2 w (m + 1) n wr) (fun p _ => n - (intOf p).toNat)
      case atStart => exact ⟨0, Nat.zero_le _, rfl, inv2_start (by omega) (by omega) HI.out⟩
      case round =>
        clear HI hsz q1
        obtain ⟨k', hk', rfl, hinv⟩ := hrel
        by_cases hlt : k' < n
        · have HI := hide hinv
          obtain ⟨⟨_, v0, x0, rfl⟩, f0⟩ := hinv.ev0 k' hlt
          obtain ⟨⟨_, v1, x1, rfl, y1⟩, f1⟩ := hinv.ev1 k' hlt
          obtain ⟨⟨_, v2, rfl⟩, f2⟩ := hinv.ev2 k' hlt
          obtain ⟨⟨_, v3, x3, rfl, y3⟩, f3⟩ := hinv.tw k' hlt
          obtain ⟨pv, hpv, hpc⟩ := HP.out k' hlt
          have hpc' := hinv.bel.cell (p := ⟨b0, o0 + k', .none⟩) hb0
          clear hinv
          have q0 : (0 : Int) ≤ (k' : Int) := by omega
          have q1 : (k' : Int) < (n : Int) := by omega
          have q2 : ((a2 % 4 + 1) == 0) = false := by simp; omega
          have q3 : (0 : Int) ≤ (pv : Int) := by omega
          have q4 : (pv : Int) ≤ 255 := by omega
          have hpm0 : (0 : Int) ≤ (pv : Int) % (a2 % 4 + 1) := Int.emod_nonneg _ (by omega)
          have hpm1 : (pv : Int) % (a2 % 4 + 1) < ((m + 1 : Nat) : Int) := by rw [HMM.out]; exact Int.emod_lt_of_pos _ (by omega)
          have HM := hide (And.intro hpm0 hpm1)
          clear hpm0 hpm1
          by_cases hl : k' < l1
          · obtain ⟨b1, o1, rfl, hb1, tv, htc⟩ := HT.out k' hl
            have htc' := HI.out.bel.cell (p := ⟨b1, o1 + k', .none⟩) hb1
            have e1 : w.heap.size + 1 ≠ b1 := by omega
            have e2 : w.heap.size + 1 + 1 ≠ b1 := by omega
            have q5 : (k' : Int) < (l1 : Int) := by omega
            by_cases htv : 0 ≤ tv
            · have htn : tv % (n : Int) < (n : Int) := Int.emod_lt_of_pos _ (by omega)
              have HTN := hide htn
              clear htn
              go_wp2
              go_roundw
              case rel => exact ⟨k' + 1, by omega, by go_num, (HI.out.step k' _ _ _ HM.out.1 HM.out.2 (by omega)).setTw k' _ HTN.out⟩
              case measure => simp [intOf]; omega
            · have q6 : decide (0 ≤ tv) = false := by simpa using htv
              go_wp2
              go_roundw
              case rel => exact ⟨k' + 1, by omega, by go_num, HI.out.step k' _ _ _ HM.out.1 HM.out.2 (by omega)⟩
              case measure => simp [intOf]; omega
          · have q5 : decide ((k' : Int) < (l1 : Int)) = false := by simp; omega
            go_wp2
            go_roundw
            case rel => exact ⟨k' + 1, by omega, by go_num, HI.out.step k' _ _ _ HM.out.1 HM.out.2 (by omega)⟩
            case measure => simp [intOf]; omega
        · have HI := hide hinv
          have hsz := hinv.size
          have q1 : ¬ (k' : Int) < (n : Int) := by omega
          clear hinv
          have q2 : 0 ≤ a3 % (n : Int) := Int.emod_nonneg _ (by omega)
          have q3 : a3 % (n : Int) < (n : Int) := Int.emod_lt_of_pos _ (by omega)
          obtain ⟨⟨_, tc, x, rfl, hxn⟩, _⟩ := HI.out.tw ix hixn
          by_cases hx : x < 0
          · have hx' : decide (0 ≤ x) = false := by simp; omega
            go_wp2_with fail
            rw [hix.out]
            refine (here_no HI.out hixn tc hx).mono ?_
            rintro e w1 ⟨rfl, rfl⟩
            have z1 : w.heap.size + 1 + 1 < wr.heap.size := by omega
            have z2 : w.heap.size + 1 + 1 < wr.heap.size + 1 := by omega
            have z3 : (ix : Int) < (n : Int) := by omega
            unfold LOG CHK
            go_wp2
            go_ret
            exact ⟨rfl, (HI.out.bel.alloc (by omega) _).alloc (by simp; omega) _⟩
          · obtain ⟨xn, rfl⟩ := Int.eq_ofNat_of_zero_le (show 0 ≤ x by omega)
            go_wp2_with fail
            rw [hix.out]
            refine (here_yes F HI.out HF.out hixn tc (by omega)).mono ?_
            rintro e w1 ⟨t, rfl, hb⟩
            have hb' := hb.cell (p := ⟨w.heap.size + 1 + 1, ix, .none⟩) (by show w.heap.size + 1 + 1 < _; omega)
            have HB := hide hb
            clear hb
            have z3 : (ix : Int) < (n : Int) := by omega
            go_wp2
            go_ret
            exact ⟨rfl, HI.out.bel.trans (HB.out.mono (by omega))⟩
end Go.Proofs.YbulkatvaFmt.twin
