/-
  Of LawS2267BCounts: comparing, searching, heldUses.of.
-/
import Derived.Test.YbulkatxsFmtCntUndef
namespace Go.Proofs.YbulkatxsFmt.cnt
open Go.ChangeShapes Go.WideShapes Go.ChangeAt Go.RowKit Go

/-- a use that a definition holds: the alias named, the alias whose definition holds it, its column -/
structure Hu where
  (a i c : Nat)
deriving DecidableEq

def Hu.val (h : Hu) : Value := .agg #[.int .i32 h.a, .int .i32 h.i, .int .u32 0, .int .u32 0, .int .u32 h.c]

/-- Five cells hold h. -/
def HuAt (w : World) (g o : Nat) (h : Hu) : Prop :=
  w.cell? ⟨g, o, .none⟩ = some (.int .i32 h.a) ∧ w.cell? ⟨g, o + 1, .none⟩ = some (.int .i32 h.i) ∧ w.cell? ⟨g, o + 2, .none⟩ = some (.int .u32 0) ∧ w.cell? ⟨g, o + 3, .none⟩ = some (.int .u32 0) ∧ w.cell? ⟨g, o + 4, .none⟩ = some (.int .u32 h.c)

/-- The uses L lie in block g from o on. -/
def Held (w : World) (g o : Nat) (L : List Hu) : Prop := ∀ (j : Nat) (h : Hu), L[j]? = some h → HuAt w g (o + j * 5) h

theorem HuAt.keep {S : Nat → Prop} {w w' : World} {g o : Nat} {h : Hu} (H : HuAt w g o h) (k : Keep S w w') (hg : ¬ S g) : HuAt w' g o h := by
  obtain ⟨h0, h1, h2, h3, h4⟩ := H
  exact ⟨(k.cell (World.block_lt_of_cell? w _ h0) hg).trans h0, (k.cell (World.block_lt_of_cell? w _ h1) hg).trans h1, (k.cell (World.block_lt_of_cell? w _ h2) hg).trans h2, (k.cell (World.block_lt_of_cell? w _ h3) hg).trans h3, (k.cell (World.block_lt_of_cell? w _ h4) hg).trans h4⟩
theorem Held.keep {S : Nat → Prop} {w w' : World} {g o : Nat} {L : List Hu} (H : Held w g o L) (k : Keep S w w') (hg : ¬ S g) : Held w' g o L := fun j h hj => (H j h hj).keep k hg

def cmpI (x y : Int) : Int := if x < y then -1 else if y < x then 1 else 0

set_option maxHeartbeats 1000000 in
set_option maxRecDepth 100000 in
theorem isNaN_any (x : Int) (w : World) : Calls Ybaf.prog 26 #[.int .i32 x] w fun e w' => e = .returned (.bool false) ∧ w' = w := by
  go_enter Ybaf.func26, Ybaf.ntmps26
  go_wp2
  go_ret
  exact ⟨rfl, rfl⟩

set_option maxHeartbeats 1000000 in
set_option maxRecDepth 100000 in
theorem compare_any (x y : Int) (w : World) : Calls Ybaf.prog 17 #[.int .i32 x, .int .i32 y] w fun e w' => e = .returned (.int .i64 (cmpI x y)) ∧ w' = w := by
  unfold cmpI
  by_cases h1 : x < y
  · go_enter Ybaf.func17, Ybaf.ntmps17
    go_wp2_with (go_at_call 26; refine (isNaN_any _ _).mono ?_; rintro e w' ⟨rfl, rfl⟩)
    go_ret
    exact ⟨by simp, rfl⟩
  · by_cases h2 : y < x
    · have h1' : decide (x < y) = false := by simpa using h1
      go_enter Ybaf.func17, Ybaf.ntmps17
      go_wp2_with (go_at_call 26; refine (isNaN_any _ _).mono ?_; rintro e w' ⟨rfl, rfl⟩)
      go_ret
      exact ⟨by simp, rfl⟩
    · have h1' : decide (x < y) = false := by simpa using h1
      have h2' : decide (y < x) = false := by simpa using h2
      go_enter Ybaf.func17, Ybaf.ntmps17
      go_wp2_with (go_at_call 26; refine (isNaN_any _ _).mono ?_; rintro e w' ⟨rfl, rfl⟩)
      go_ret
      exact ⟨by simp, rfl⟩

set_option maxHeartbeats 1000000 in
set_option maxRecDepth 100000 in
theorem byIn_any (h : Hu) (y : Int) (w : World) : Calls Ybaf.prog 27 #[.agg #[.int .i32 h.a, .int .i32 h.i, .int .u32 0, .int .u32 0, .int .u32 h.c], .int .i32 y] w fun e w' => e = .returned (.int .i64 (cmpI h.i y)) ∧ Keep No w w' := by
  go_enter Ybaf.func27, Ybaf.ntmps27
  go_wp2_with (go_at_call 17; refine (compare_any _ _ _).mono ?_; rintro e w' ⟨rfl, rfl⟩)
  go_ret
  exact ⟨rfl, (Keep.refl No w).alloc _⟩

set_option maxHeartbeats 1000000 in
set_option maxRecDepth 100000 in
/-- problems$2: what the sort compares by. -/
theorem cmp_any (h k : Hu) (w : World) : Calls Ybaf.prog 16 #[.agg #[.int .i32 h.a, .int .i32 h.i, .int .u32 0, .int .u32 0, .int .u32 h.c], .agg #[.int .i32 k.a, .int .i32 k.i, .int .u32 0, .int .u32 0, .int .u32 k.c]] w fun e w' => e = .returned (.int .i64 (cmpI h.i k.i)) ∧ Keep No w w' := by
  go_enter Ybaf.func16, Ybaf.ntmps16
  go_wp2_with (go_at_call 17; refine (compare_any _ _ _).mono ?_; rintro e w' ⟨rfl, rfl⟩)
  go_ret
  exact ⟨rfl, ((Keep.refl No w).alloc _).alloc _⟩

set_option maxHeartbeats 2000000 in
set_option maxRecDepth 100000 in
theorem search_any (g o c : Nat) (L : List Hu) (t : Nat) (w : World) (hL : L.length ≤ 1000) (hH : Held w g o L) (hs : ∀ (j k : Nat) h h', j ≤ k → L[j]? = some h → L[k]? = some h' → h.i ≤ h'.i) :
    Calls Ybaf.prog 28 #[.slice (some ⟨g, o, .none⟩) L.length c, .int .i32 t, .func (.func 27) #[] #[]] w fun e w' => ∃ (k : Nat) (f : Bool), e = .returned (.tuple #[.int .i64 k, .bool f]) ∧ Keep No w w' ∧ k ≤ L.length ∧ (∀ j h, j < k → L[j]? = some h → h.i < t) ∧ (∀ j h, k ≤ j → L[j]? = some h → t ≤ h.i) := by
  have HH := hide hH
  have HS := hide hs
  clear hH hs
  go_enter Ybaf.func28, Ybaf.ntmps28
  go_wp2
  go_loopw [9, 10] (fun p q wr => ∃ i j : Nat, i ≤ j ∧ j ≤ L.length ∧ p = .int .i64 i ∧ q = .int .i64 j ∧ Keep No w wr ∧ (∀ k h, k < i → L[k]? = some h → h.i < t) ∧ (∀ k h, j ≤ k → L[k]? = some h → t ≤ h.i)) (fun p q _ => (intOf q).toNat - (intOf p).toNat)
  case atStart => exact ⟨0, L.length, Nat.zero_le _, Nat.le_refl _, rfl, rfl, Keep.refl _ _, fun _ _ h => absurd h (Nat.not_lt_zero _), fun k h hk e => by rw [List.getElem?_eq_none hk] at e; cases e⟩
  case round =>
    obtain ⟨i, j, hij, hj, rfl, rfl, hk, hlo, hhi⟩ := hrel
    have HK := hide hk
    have HLO := hide hlo
    have HHI := hide hhi
    clear hk hlo hhi
    by_cases hlt : i < j
    · have q0 : (i : Int) < (j : Int) := by omega
      have hmL : (i + j) / 2 < L.length := by omega
      obtain ⟨x, hx⟩ : ∃ x, L[(i + j) / 2]? = some x := ⟨_, List.getElem?_eq_getElem hmL⟩
      obtain ⟨h0, h1, h2, h3, h4⟩ := (HH.out _ x hx).keep HK.out (fun h => h)
      have HX := hide hx
      clear hx
      go_wp2_with fail
      refine (byIn_any x t _).mono ?_
      rintro e w1 ⟨rfl, hk1⟩
      have HK1 := hide hk1
      clear hk1 h0 h1 h2 h3 h4
      by_cases hc : x.i < t
      · have q1 : cmpI x.i t < 0 := by unfold cmpI; split <;> omega
        go_wp2
        go_roundw
        case rel => 
          refine ⟨(i + j) / 2 + 1, j, by omega, by omega, by go_num, rfl, HK.out.trans HK1.out, fun k h hk e => ?_, HHI.out⟩
          have := HS.out k ((i + j) / 2) h x (by omega) e HX.out
          omega
        case measure => simp [intOf]; omega
      · have q1 : decide (cmpI x.i t < 0) = false := by unfold cmpI; simp; split <;> (try split) <;> omega
        go_wp2
        go_roundw
        case rel => 
          refine ⟨i, (i + j) / 2, by omega, by omega, rfl, by go_num, HK.out.trans HK1.out, HLO.out, fun k h hk e => ?_⟩
          have := HS.out ((i + j) / 2) k x h hk HX.out e
          omega
        case measure => simp [intOf]; omega
    · have q0 : decide ((i : Int) < (j : Int)) = false := by simp; omega
      obtain rfl : i = j := by omega
      by_cases hl : i < L.length
      · obtain ⟨x, hx⟩ : ∃ x, L[i]? = some x := ⟨_, List.getElem?_eq_getElem hl⟩
        obtain ⟨h0, h1, h2, h3, h4⟩ := (HH.out _ x hx).keep HK.out (fun h => h)
        have q1 : (i : Int) < (L.length : Int) := by omega
        clear hx
        go_wp2_with fail
        refine (byIn_any x t _).mono ?_
        rintro e w1 ⟨rfl, hk1⟩
        have HK1 := hide hk1
        clear hk1 h0 h1 h2 h3 h4
        go_wp2
        go_ret2
        exact ⟨i, _, rfl, HK.out.trans HK1.out, by omega, HLO.out, HHI.out⟩
      · have q1 : decide ((i : Int) < (L.length : Int)) = false := by simp; omega
        go_wp2
        go_ret2
        exact ⟨i, _, rfl, HK.out, by omega, HLO.out, HHI.out⟩

set_option maxHeartbeats 1000000 in
set_option maxRecDepth 100000 in
theorem search_none (a : Option Addr) (c : Nat) (t : Nat) (w : World) :
    Calls Ybaf.prog 28 #[.slice a 0 c, .int .i32 t, .func (.func 27) #[] #[]] w fun e w' => e = .returned (.tuple #[.int .i64 0, .bool false]) ∧ Keep No w w' := by
  go_enter Ybaf.func28, Ybaf.ntmps28
  go_wp2
  refine wp_loop_rounds 1 ?_
  rw [rounds_succ]
  go_wp2
  go_ret2
  exact ⟨rfl, Keep.refl _ _⟩

def ofL (L : List Hu) (n : Nat) : List Hu := L.filter fun h => h.i == n

theorem ofL_cut {L : List Hu} {n f k : Nat} (hf : f ≤ L.length) (lo : ∀ j h, j < f → L[j]? = some h → h.i < n) (hi : ∀ j h, f ≤ j → L[j]? = some h → n ≤ h.i)
    (lo2 : ∀ j h, j < k → (L.drop f)[j]? = some h → h.i < n + 1) (hi2 : ∀ j h, k ≤ j → (L.drop f)[j]? = some h → n + 1 ≤ h.i) : ofL L n = (L.drop f).take k := by
  have e : L = L.take f ++ ((L.drop f).take k ++ (L.drop f).drop k) := by rw [List.take_append_drop, List.take_append_drop]
  unfold ofL
  conv => lhs; rw [e]
  rw [List.filter_append, List.filter_append]
  have h1 : (L.take f).filter (fun h => h.i == n) = [] := by
    rw [List.filter_eq_nil_iff]
    intro h hm
    obtain ⟨j, hj, rfl⟩ := List.getElem_of_mem hm
    have hj' : j < f := by have := List.length_take_le f L; omega
    have hjl : j < L.length := by omega
    have := lo j _ hj' (List.getElem?_eq_getElem hjl)
    rw [List.getElem_take]
    simp
    omega
  have h2 : ((L.drop f).take k).filter (fun h => h.i == n) = (L.drop f).take k := by
    rw [List.filter_eq_self]
    intro h hm
    obtain ⟨j, hj, rfl⟩ := List.getElem_of_mem hm
    have hjd : j < (L.drop f).length := by have := hj; rw [List.length_take] at this; omega
    have hj' : j < k := by have := hj; rw [List.length_take] at this; omega
    have h1 := lo2 j ((L.drop f)[j]) hj' (List.getElem?_eq_getElem hjd)
    have h2 := hi (f + j) ((L.drop f)[j]) (by omega) (by rw [← List.getElem?_drop]; exact List.getElem?_eq_getElem hjd)
    rw [List.getElem_take]
    simp only [beq_iff_eq]
    omega
  have h3 : ((L.drop f).drop k).filter (fun h => h.i == n) = [] := by
    rw [List.filter_eq_nil_iff]
    intro h hm
    obtain ⟨j, hj, rfl⟩ := List.getElem_of_mem hm
    have := hi2 (k + j) (((L.drop f).drop k)[j]) (by omega) (by rw [← List.getElem?_drop]; exact List.getElem?_eq_getElem hj)
    simp only [beq_iff_eq]
    omega
  rw [h1, h2, h3]
  simp

/-- What lies at a slice of uses. -/
def HSl (w : World) (g : Nat) (v : Value) (L : List Hu) : Prop := ∃ (a : Option Addr) (c f : Nat), v = .slice a L.length c ∧ L.length ≤ c ∧ (L ≠ [] → a = some ⟨g, f * 5, .none⟩) ∧ Held w g (f * 5) L

set_option maxHeartbeats 2000000 in
set_option maxRecDepth 100000 in
theorem of_any (a : Option Addr) (g c : Nat) (L : List Hu) (n : Nat) (w : World) (hL : L.length ≤ 1000) (hn : n < 1000) (hcap : L.length ≤ c) (ha0 : L = [] → a = .none ∧ c = 0) (ha : L ≠ [] → a = some ⟨g, 0, .none⟩) (hH : Held w g 0 L) (hs : ∀ (j k : Nat) h h', j ≤ k → L[j]? = some h → L[k]? = some h' → h.i ≤ h'.i) :
    Calls Ybaf.prog 18 #[.slice a L.length c, .int .i32 n] w fun e w' => ∃ v, e = .returned v ∧ Keep No w w' ∧ HSl w' g v (ofL L n) := by
  by_cases h0 : L = []
  · subst h0
    obtain ⟨rfl, rfl⟩ := ha0 rfl
    go_enter Ybaf.func18, Ybaf.ntmps18
    go_wp2_with fail
    refine (search_none _ _ n _).mono ?_
    rintro e w1 ⟨rfl, hk1⟩
    have HK1 := hide hk1
    clear hk1
    go_wp2_with fail
    refine (search_none _ _ (n + 1) _).mono ?_
    rintro e w2 ⟨rfl, hk2⟩
    have HK2 := hide hk2
    clear hk2
    go_wp2
    go_ret
    exact ⟨_, rfl, HK1.out.trans HK2.out, .none, 0, 0, rfl, Nat.le_refl _, fun h => absurd rfl h, fun j h e => by simp [ofL] at e⟩
  · obtain rfl := ha h0
    have HH := hide hH
    have HS := hide hs
    have HC := hide hcap
    clear hH hs
    go_enter Ybaf.func18, Ybaf.ntmps18
    go_wp2_with fail
    refine (search_any g 0 c L n w hL HH.out HS.out).mono ?_
    rintro e w1 ⟨f, b, rfl, hk1, hf, lo, hi⟩
    have HK1 := hide hk1
    have HLO := hide lo
    have HHI := hide hi
    clear hk1 lo hi
    have q0 : (f : Int) ≤ (L.length : Int) := by omega
    have q1 : (L.length : Int) ≤ (c : Int) := by omega
    have q2 : (f : Int) ≤ (c : Int) := by omega
    by_cases hfc : f = c
    · subst hfc
      have e0 : L.length - f = 0 := by omega
      go_wp2_with fail
      refine (search_none _ _ (n + 1) _).mono ?_
      rintro e w2 ⟨rfl, hk2⟩
      have HK2 := hide hk2
      clear hk2
      go_wp2
      go_ret
      have e : ofL L n = [] := by
        rw [ofL_cut (k := 0) (f := f) hf HLO.out HHI.out (fun j h hj => absurd hj (Nat.not_lt_zero _)) (fun j h hj ej => by rw [List.getElem?_eq_none (by simp; omega)] at ej; cases ej)]
        simp
      refine ⟨_, rfl, HK1.out.trans HK2.out, ?_⟩
      rw [e]
      exact ⟨some ⟨g, 0, .none⟩, 0, 0, rfl, Nat.le_refl _, fun h => absurd rfl h, fun j h e => by simp at e⟩
    · go_wp2_with fail
      have hd : (L.drop f).length = L.length - f := by simp
      have hcon := search_any g (f * 5) (c - f) (L.drop f) (n + 1) w1 (by omega) (fun j h hj => by
          have := (HH.out (f + j) h (by rw [← List.getElem?_drop]; exact hj)).keep HK1.out (fun h => h)
          rw [show f * 5 + j * 5 = 0 + (f + j) * 5 by omega]
          exact this) (fun j k h h' hjk ej ek => HS.out (f + j) (f + k) h h' (by omega) (by rw [← List.getElem?_drop]; exact ej) (by rw [← List.getElem?_drop]; exact ek))
      rw [hd] at hcon
      refine hcon.mono ?_
      clear hcon
      rintro e w2 ⟨k, b2, rfl, hk2, hkl, lo2, hi2⟩
      have HK2 := hide hk2
      have HLO2 := hide lo2
      have HHI2 := hide hi2
      clear hk2 lo2 hi2
      have q3 : (f : Int) + (k : Int) ≤ (c : Int) := by omega
      go_wp2
      go_ret
      have e : ofL L n = (L.drop f).take k := ofL_cut hf HLO.out HHI.out HLO2.out HHI2.out
      have el : (ofL L n).length = k := by rw [e, List.length_take]; omega
      refine ⟨_, rfl, HK1.out.trans HK2.out, some ⟨g, f * 5, .none⟩, c - f, f, ?_, by omega, fun _ => rfl, fun j h hj => ?_⟩
      · simp [el]
      · rw [e] at hj
        have hjk : j < k := by
          have := (List.getElem?_eq_some_iff.1 hj).1
          rw [List.length_take] at this
          omega
        rw [List.getElem?_take_of_lt hjk, List.getElem?_drop] at hj
        have := ((HH.out (f + j) h hj).keep HK1.out (fun h => h)).keep HK2.out (fun h => h)
        rw [show f * 5 + j * 5 = 0 + (f + j) * 5 by omega]
        exact this
end Go.Proofs.YbulkatxsFmt.cnt
