/-
  Of LawS2259AExact: the walk of the law itself, where the user is asked by SMS.
-/
import Derived.Test.YbulkattkExactWalk
namespace Go.Proofs.Ybulkattk.exact
open Go.ChangeShapes Go.WideShapes Go.ChangeAt Go.RowKit Go

set_option maxHeartbeats 4000000 in
set_option maxRecDepth 100000 in
theorem walk_smsA (a1 a2 : Bool) (a3 : ByteArray) (a4 : Option Addr) (n cap : Nat) (a6 : ByteArray) (a7 a8 : Bool) (a9 a10 : Int) (w : World) (hn : n ≤ 1024) (s0 s1 : Nat → ByteArray) (hr : Row w a4 n s0 s1) (hno : (a1 && a2) = false) :
    Calls Yba.prog 3 #[.bool true, .bool a1, .bool a2, .string a3, .slice a4 n cap, .bool true, .string a6, .bool a7, .bool a8, .int .i64 a9, .int .i64 a10] w fun e w' => e = .returned (.bool true) ∧ Below w.heap.size w w' := by
  have hmm := @run_makeMap Yba.prog
  have hin := run_insert
  have hval : Hid ((if a3 = a3 then .slice a4 n cap else .slice .none 0 0) = (.slice a4 n cap : Value)) := if_pos rfl
  have HR := hide hr
  clear hr
  cases a1 <;> cases a2
  case true.true => cases hno
  all_goals
    go_enter Yba.func3, Yba.ntmps3
    go_wp2_with (first | (go_at_call 6; refine (ota_sms w a3 (.slice a4 n cap) a3 a9 a10 a7 a8 _ _ a4 n cap s0 s1 hval HR hn (by rfl)).mono ?_; rintro e w1 ⟨h, a', c', rfl, hact, hcop, hb⟩; have HB := hide hb; have HC := hide hcop; have HA := hide hact; obtain ⟨c0, c1, c2, c3, c4, c5, c6, c7, c8⟩ := vis_cells hb; obtain ⟨d0, d1, d2, d3⟩ := act2_cells hact; have hsz := start_size hb; have hlt := (Array.getElem?_eq_some_iff.1 hact).1; clear hb hcop hact) | (go_at_call 7; refine (plain_true _ _).mono ?_; rintro e w' ⟨rfl, rfl⟩))
    refine (upd_any a' a4 n c' cap (w.heap.size + 4) s0 s1 _ hn HC.out (HR.out.far (below_of_start HB.out)) (fun h0 x hx => Nat.lt_of_lt_of_le (HR.out.lt h0 x hx) (by omega))).mono ?_
    rintro e w2 ⟨rfl, hb2⟩
    obtain ⟨hb3, hk⟩ := on0 HB.out hb2
    have HB3 := hide hb3
    have hact := (hk h hlt).trans HA.out
    clear c0 c1 c2 c3 c4 c5 c6 c7 c8 d0 d1 d2 d3 hk
    obtain ⟨c0, c1, c2, c3, c4, c5, c6, c7, c8⟩ := vis_cells hb3
    obtain ⟨d0, d1, d2, d3⟩ := act2_cells hact
    have hlt2 := (Array.getElem?_eq_some_iff.1 hact).1
    have hsz2 := start_size hb3
    have hlt3 : h < w2.heap.size + 1 := by omega
    have hsz3 : w.heap.size + 1 + 1 < w2.heap.size + 1 := by omega
    clear hb3 hb2 hact hlt hsz
    go_wp2_with (go_at_call 7; refine (plain_true _ _).mono ?_; rintro e w' ⟨rfl, rfl⟩)
    go_ret
    exact ⟨by simp, (below_of_start HB3.out).alloc (by omega) _⟩

set_option maxHeartbeats 4000000 in
set_option maxRecDepth 100000 in
theorem walk_smsB (a1 a2 : Bool) (a4 : Option Addr) (n cap : Nat) (a6 : ByteArray) (a7 a8 : Bool) (a9 a10 : Int) (w : World) (hn : n ≤ 1024) (s0 s1 : Nat → ByteArray) (hr : Row w a4 n s0 s1) (hno : (a1 && a2) = false) :
    Calls Yba.prog 3 #[.bool true, .bool a1, .bool a2, .string a6, .slice a4 n cap, .bool false, .string a6, .bool a7, .bool a8, .int .i64 a9, .int .i64 a10] w fun e w' => e = .returned (.bool true) ∧ Below w.heap.size w w' := by
  have hmm := @run_makeMap Yba.prog
  have hin := run_insert
  have hval : Hid ((if a6 = a6 then .slice a4 n cap else .slice .none 0 0) = (.slice a4 n cap : Value)) := if_pos rfl
  have HR := hide hr
  clear hr
  cases a1 <;> cases a2
  case true.true => cases hno
  all_goals
    go_enter Yba.func3, Yba.ntmps3
    go_wp2_with (first | (go_at_call 6; refine (ota_sms w a6 (.slice a4 n cap) a6 a9 a10 a7 a8 _ _ a4 n cap s0 s1 hval HR hn (by rfl)).mono ?_; rintro e w1 ⟨h, a', c', rfl, hact, hcop, hb⟩; have HB := hide hb; have HC := hide hcop; have HA := hide hact; obtain ⟨c0, c1, c2, c3, c4, c5, c6, c7, c8⟩ := vis_cells hb; obtain ⟨d0, d1, d2, d3⟩ := act2_cells hact; have hsz := start_size hb; have hlt := (Array.getElem?_eq_some_iff.1 hact).1; clear hb hcop hact) | (go_at_call 7; refine (plain_true _ _).mono ?_; rintro e w' ⟨rfl, rfl⟩))
    refine (upd_any a' a4 n c' cap (w.heap.size + 4) s0 s1 _ hn HC.out (HR.out.far (below_of_start HB.out)) (fun h0 x hx => Nat.lt_of_lt_of_le (HR.out.lt h0 x hx) (by omega))).mono ?_
    rintro e w2 ⟨rfl, hb2⟩
    obtain ⟨hb3, hk⟩ := on0 HB.out hb2
    have HB3 := hide hb3
    have hact := (hk h hlt).trans HA.out
    clear c0 c1 c2 c3 c4 c5 c6 c7 c8 d0 d1 d2 d3 hk
    obtain ⟨c0, c1, c2, c3, c4, c5, c6, c7, c8⟩ := vis_cells hb3
    obtain ⟨d0, d1, d2, d3⟩ := act2_cells hact
    have hlt2 := (Array.getElem?_eq_some_iff.1 hact).1
    have hsz2 := start_size hb3
    have hlt3 : h < w2.heap.size + 1 := by omega
    have hsz3 : w.heap.size + 1 + 1 < w2.heap.size + 1 := by omega
    clear hb3 hb2 hact hlt hsz
    go_wp2_with (go_at_call 7; refine (plain_true _ _).mono ?_; rintro e w' ⟨rfl, rfl⟩)
    go_ret
    exact ⟨by simp, (below_of_start HB3.out).alloc (by omega) _⟩

set_option maxHeartbeats 4000000 in
set_option maxRecDepth 100000 in
theorem walk_smsC (a1 a2 : Bool) (a3 : ByteArray) (a4 : Option Addr) (n cap : Nat) (a6 : ByteArray) (a7 a8 : Bool) (a9 a10 : Int) (w : World) (hn : n ≤ 1024) (s0 s1 : Nat → ByteArray) (hne : (a6.toList == a3.toList) = false) (hno : (a1 && a2) = false) :
    Calls Yba.prog 3 #[.bool true, .bool a1, .bool a2, .string a3, .slice a4 n cap, .bool false, .string a6, .bool a7, .bool a8, .int .i64 a9, .int .i64 a10] w fun e w' => e = .returned (.bool true) ∧ Below w.heap.size w w' := by
  have hmm := @run_makeMap Yba.prog
  have hin := run_insert
  have hval : Hid ((if a6 = a3 then .slice a4 n cap else .slice .none 0 0) = (.slice .none 0 0 : Value)) := if_neg (by rintro rfl; simp at hne)
  have HR : Hid (Row w .none 0 s0 s1) := hide (.inl rfl)
  have hz : 0 ≤ 1024 := by omega
  cases a1 <;> cases a2
  case true.true => cases hno
  all_goals
    go_enter Yba.func3, Yba.ntmps3
    go_wp2_with (first | (go_at_call 6; refine (ota_sms w a3 (.slice a4 n cap) a6 a9 a10 a7 a8 _ _ .none 0 0 s0 s1 hval HR hz (by rfl)).mono ?_; rintro e w1 ⟨h, a', c', rfl, hact, hcop, hb⟩; have HB := hide hb; have HC := hide hcop; have HA := hide hact; obtain ⟨c0, c1, c2, c3, c4, c5, c6, c7, c8⟩ := vis_cells hb; obtain ⟨d0, d1, d2, d3⟩ := act2_cells hact; have hsz := start_size hb; have hlt := (Array.getElem?_eq_some_iff.1 hact).1; clear hb hcop hact) | (go_at_call 7; refine (plain_true _ _).mono ?_; rintro e w' ⟨rfl, rfl⟩))
    refine (upd_any a' .none 0 c' 0 (w.heap.size + 4) s0 s1 _ hz HC.out (HR.out.far (below_of_start HB.out)) (fun h0 x hx => Nat.lt_of_lt_of_le (HR.out.lt h0 x hx) (by omega))).mono ?_
    rintro e w2 ⟨rfl, hb2⟩
    obtain ⟨hb3, hk⟩ := on0 HB.out hb2
    have HB3 := hide hb3
    have hact := (hk h hlt).trans HA.out
    clear c0 c1 c2 c3 c4 c5 c6 c7 c8 d0 d1 d2 d3 hk
    obtain ⟨c0, c1, c2, c3, c4, c5, c6, c7, c8⟩ := vis_cells hb3
    obtain ⟨d0, d1, d2, d3⟩ := act2_cells hact
    have hlt2 := (Array.getElem?_eq_some_iff.1 hact).1
    have hsz2 := start_size hb3
    have hlt3 : h < w2.heap.size + 1 := by omega
    have hsz3 : w.heap.size + 1 + 1 < w2.heap.size + 1 := by omega
    clear hb3 hb2 hact hlt hsz
    go_wp2_with (go_at_call 7; refine (plain_true _ _).mono ?_; rintro e w' ⟨rfl, rfl⟩)
    go_ret
    exact ⟨by simp, (below_of_start HB3.out).alloc (by omega) _⟩

end Go.Proofs.Ybulkattk.exact
