/-
  Of LawS2259AExact: the walk of the law itself.
-/
import Derived.Test.YbulkattkExactOta
namespace Go.Proofs.Ybulkattk.exact
open Go.ChangeShapes Go.WideShapes Go.ChangeAt Go.RowKit Go

/-- What lies in a later world of what lay in the world of the start. -/
theorem vis_cells {w w1 : World} {key : ByteArray} {pv : Value} {ota : Bool} {mcc : ByteArray} {rna rounds : Int} {waiting closed : Bool} (hb : Below (w.heap.size + 3) (Start w key pv ota mcc rna rounds waiting closed) w1) :
    w1.cell? ⟨w.heap.size + 1 + 1, 0, .none⟩ = some (.string mcc) ∧ w1.cell? ⟨w.heap.size + 1 + 1, 1, .none⟩ = some (.string ⟨#[114, 110, 97]⟩) ∧ w1.cell? ⟨w.heap.size + 1 + 1, 2, .none⟩ = some (.int .i64 rna) ∧
    w1.cell? ⟨w.heap.size + 1 + 1, 3, .none⟩ = some (.int .i64 rounds) ∧ w1.cell? ⟨w.heap.size + 1 + 1, 4, .none⟩ = some (.int .i64 0) ∧ w1.cell? ⟨w.heap.size + 1 + 1, 5, .none⟩ = some (.string ⟨#[]⟩) ∧
    w1.cell? ⟨w.heap.size + 1 + 1, 6, .none⟩ = some (.string ⟨#[]⟩) ∧ w1.cell? ⟨w.heap.size + 1 + 1, 7, .none⟩ = some (.bool waiting) ∧ w1.cell? ⟨w.heap.size + 1 + 1, 8, .none⟩ = some (.bool closed) := by
  have h : w1.heap[w.heap.size + 1 + 1]? = some (Vis mcc rna rounds waiting closed) := by
    rw [hb.block _ (by omega)]
    unfold Start
    have e : ((w.alloc (oneEntry key pv)).alloc (Pol w.heap.size ota)).heap.size = w.heap.size + 1 + 1 := by simp
    rw [← e]
    exact heap_alloc_new _ _
  simp [World.cell?, h, Vis]

theorem below_of_start {w w1 : World} {key : ByteArray} {pv : Value} {ota : Bool} {mcc : ByteArray} {rna rounds : Int} {waiting closed : Bool} (hb : Below (w.heap.size + 3) (Start w key pv ota mcc rna rounds waiting closed) w1) : Below w.heap.size w w1 :=
  (start_below ..).trans (hb.mono (by omega))

set_option maxHeartbeats 2000000 in
set_option maxRecDepth 100000 in
theorem walk_long (a0 a1 a2 : Bool) (a3 : ByteArray) (a4 : Option Addr) (n cap : Nat) (a5 : Bool) (a6 : ByteArray) (a7 a8 : Bool) (a9 a10 : Int) (w : World) (hn : ¬ n ≤ 1024) :
    Calls Yba.prog 3 #[.bool a0, .bool a1, .bool a2, .string a3, .slice a4 n cap, .bool a5, .string a6, .bool a7, .bool a8, .int .i64 a9, .int .i64 a10] w fun e w' => e = .returned (.bool true) ∧ Below w.heap.size w w' := by
  go_enter Yba.func3, Yba.ntmps3
  go_wp2
  go_ret
  exact ⟨rfl, Below.refl _ _⟩

set_option maxHeartbeats 2000000 in
set_option maxRecDepth 100000 in
theorem walk_off (a1 a2 : Bool) (a3 : ByteArray) (a4 : Option Addr) (n cap : Nat) (a5 : Bool) (a6 : ByteArray) (a7 a8 : Bool) (a9 a10 : Int) (w : World) (hn : n ≤ 1024) (h6 : (a6.toList == a3.toList) = false ∨ a6 = a3) :
    Calls Yba.prog 3 #[.bool false, .bool a1, .bool a2, .string a3, .slice a4 n cap, .bool a5, .string a6, .bool a7, .bool a8, .int .i64 a9, .int .i64 a10] w fun e w' => e = .returned (.bool true) ∧ Below w.heap.size w w' := by
  have hmm := @run_makeMap Yba.prog
  have hin := run_insert
  have q40 := fun (w : World) a n c n' c' => Lib.run_eql_slice_nil (P := Yba.prog) w 40 _ a n c n' c' Yba.underlying40
  cases a5
  · rcases h6 with h6 | rfl
    · go_enter Yba.func3, Yba.ntmps3
      go_wp2_with (go_at_call 6; refine (ota_off w a3 (.slice a4 n cap) a6 a9 a10 a7 a8 a1 a2).mono ?_; rintro e w1 ⟨rfl, hb⟩; have HB := hide hb; obtain ⟨c0, c1, c2, c3, c4, c5, c6, c7, c8⟩ := vis_cells hb; clear hb)
      go_ret
      exact ⟨by simp, below_of_start HB.out⟩
    · go_enter Yba.func3, Yba.ntmps3
      go_wp2_with (go_at_call 6; refine (ota_off w a6 (.slice a4 n cap) a6 a9 a10 a7 a8 a1 a2).mono ?_; rintro e w1 ⟨rfl, hb⟩; have HB := hide hb; obtain ⟨c0, c1, c2, c3, c4, c5, c6, c7, c8⟩ := vis_cells hb; clear hb)
      go_ret
      exact ⟨by simp, below_of_start HB.out⟩
  · go_enter Yba.func3, Yba.ntmps3
    go_wp2_with (go_at_call 6; refine (ota_off w a3 (.slice a4 n cap) a3 a9 a10 a7 a8 a1 a2).mono ?_; rintro e w1 ⟨rfl, hb⟩; have HB := hide hb; obtain ⟨c0, c1, c2, c3, c4, c5, c6, c7, c8⟩ := vis_cells hb; clear hb)
    go_ret
    exact ⟨by simp, below_of_start HB.out⟩

/-- The four actions, cell by cell, in every world that keeps their block. -/
theorem act4_cells {w1 : World} {h n c' : Nat} {a' : Option Addr} (hh : w1.heap[h]? = some (Act4 a' n c')) :
    w1.cell? ⟨h, 0, .none⟩ = some (.string ⟨#[99, 108, 101, 97, 114, 45, 102, 111, 114, 98, 105, 100, 100, 101, 110]⟩) ∧ w1.cell? ⟨h, 1, .none⟩ = some (.slice .none 0 0) ∧ w1.cell? ⟨h, 2, .none⟩ = some (.string ⟨#[117, 112, 100, 97, 116, 101, 45, 112, 114, 101, 102, 101, 114, 114, 101, 100]⟩) ∧ w1.cell? ⟨h, 3, .none⟩ = some (.slice a' n c') ∧
    w1.cell? ⟨h, 4, .none⟩ = some (.string ⟨#[99, 108, 101, 97, 114, 45, 114, 101, 103, 105, 115, 116, 101, 114, 101, 100]⟩) ∧ w1.cell? ⟨h, 5, .none⟩ = some (.slice .none 0 0) ∧ w1.cell? ⟨h, 6, .none⟩ = some (.string ⟨#[114, 101, 102, 114, 101, 115, 104, 45, 105, 110, 105, 116]⟩) ∧ w1.cell? ⟨h, 7, .none⟩ = some (.slice .none 0 0) := by
  simp [World.cell?, hh, Act4, CF, UP, CR, RI]
theorem act2_cells {w1 : World} {h n c' : Nat} {a' : Option Addr} (hh : w1.heap[h]? = some (Act2 a' n c')) :
    w1.cell? ⟨h, 0, .none⟩ = some (.string ⟨#[117, 112, 100, 97, 116, 101, 45, 112, 114, 101, 102, 101, 114, 114, 101, 100]⟩) ∧ w1.cell? ⟨h, 1, .none⟩ = some (.slice a' n c') ∧ w1.cell? ⟨h, 2, .none⟩ = some (.string ⟨#[115, 109, 115, 45, 114, 101, 115, 116, 97, 114, 116]⟩) ∧ w1.cell? ⟨h, 3, .none⟩ = some (.slice .none 0 0) := by
  simp [World.cell?, hh, Act2, UP, SM]

theorem Row.lt {w : World} {a : Option Addr} {n : Nat} {s0 s1 : Nat → ByteArray} (h : Row w a n s0 s1) (hn : n ≠ 0) (x : Addr) (hx : a = some x) : x.block < w.heap.size := by
  rcases h with h | ⟨b, off, e, hlt, h⟩
  · exact absurd h hn
  · rw [e] at hx; cases hx; exact hlt

/-- The actions' block, the visit's cells and the copy, behind a block more and a call that leaves old memory alone. -/
theorem on {w w1 w2 : World} {key : ByteArray} {pv : Value} {ota : Bool} {mcc : ByteArray} {rna rounds : Int} {waiting closed : Bool} {O : Obj} (hb : Below (w.heap.size + 3) (Start w key pv ota mcc rna rounds waiting closed) w1)
    (h2 : Below (w1.alloc O).heap.size (w1.alloc O) w2) : Below (w.heap.size + 3) (Start w key pv ota mcc rna rounds waiting closed) w2 ∧ ∀ b, b < w1.heap.size → w2.heap[b]? = w1.heap[b]? := by
  have hs : w.heap.size + 3 ≤ w1.heap.size := by have := hb.size; simp [Start] at this; omega
  refine ⟨(hb.alloc hs O).trans (h2.mono (by simp; omega)), fun b h => ?_⟩
  rw [h2.block b (by simp; omega), Below.heap_alloc _ _ _ h]
theorem start_size {w w1 : World} {key : ByteArray} {pv : Value} {ota : Bool} {mcc : ByteArray} {rna rounds : Int} {waiting closed : Bool} (hb : Below (w.heap.size + 3) (Start w key pv ota mcc rna rounds waiting closed) w1) : w.heap.size + 1 + 1 < w1.heap.size := by
  have := hb.size; simp [Start] at this; omega

theorem on0 {w w1 w2 : World} {key : ByteArray} {pv : Value} {ota : Bool} {mcc : ByteArray} {rna rounds : Int} {waiting closed : Bool} (hb : Below (w.heap.size + 3) (Start w key pv ota mcc rna rounds waiting closed) w1)
    (h2 : Below w1.heap.size w1 w2) : Below (w.heap.size + 3) (Start w key pv ota mcc rna rounds waiting closed) w2 ∧ ∀ b, b < w1.heap.size → w2.heap[b]? = w1.heap[b]? := by
  have hs : w.heap.size + 3 ≤ w1.heap.size := by have := hb.size; simp [Start] at this; omega
  exact ⟨hb.trans (h2.mono hs), fun b h => h2.block b h⟩

set_option maxHeartbeats 4000000 in
set_option maxRecDepth 100000 in
theorem walk_initA (a3 : ByteArray) (a4 : Option Addr) (n cap : Nat) (a6 : ByteArray) (a7 a8 : Bool) (a9 a10 : Int) (w : World) (hn : n ≤ 1024) (s0 s1 : Nat → ByteArray) (hr : Row w a4 n s0 s1) :
    Calls Yba.prog 3 #[.bool true, .bool true, .bool true, .string a3, .slice a4 n cap, .bool true, .string a6, .bool a7, .bool a8, .int .i64 a9, .int .i64 a10] w fun e w' => e = .returned (.bool true) ∧ Below w.heap.size w w' := by
  have hmm := @run_makeMap Yba.prog
  have hin := run_insert
  have hval : Hid ((if a3 = a3 then .slice a4 n cap else .slice .none 0 0) = (.slice a4 n cap : Value)) := if_pos rfl
  have HR := hide hr
  clear hr
  go_enter Yba.func3, Yba.ntmps3
  go_wp2_with (first | (go_at_call 6; refine (ota_init w a3 (.slice a4 n cap) a3 a9 a10 a7 a8 a4 n cap s0 s1 hval HR hn).mono ?_; rintro e w1 ⟨h, a', c', rfl, hact, hcop, hb⟩; have HB := hide hb; have HC := hide hcop; have HA := hide hact; obtain ⟨c0, c1, c2, c3, c4, c5, c6, c7, c8⟩ := vis_cells hb; obtain ⟨d0, d1, d2, d3, d4, d5, d6, d7⟩ := act4_cells hact; have hsz := start_size hb; have hlt := (Array.getElem?_eq_some_iff.1 hact).1; clear hb hcop hact) | (go_at_call 7; refine (plain_true _ _).mono ?_; rintro e w' ⟨rfl, rfl⟩))
  refine (upd_any a' a4 n c' cap (w.heap.size + 4) s0 s1 _ hn (HC.out.below ((Below.refl _ _).alloc (Nat.le_refl _) _)) (HR.out.far ((below_of_start HB.out).alloc (by omega) _)) (fun h0 x hx => Nat.lt_of_lt_of_le (HR.out.lt h0 x hx) (by omega))).mono ?_
  rintro e w2 ⟨rfl, hb2⟩
  obtain ⟨hb3, hk⟩ := on HB.out hb2
  have HB3 := hide hb3
  have hact := (hk h hlt).trans HA.out
  clear c0 c1 c2 c3 c4 c5 c6 c7 c8 d0 d1 d2 d3 d4 d5 d6 d7 hk
  obtain ⟨c0, c1, c2, c3, c4, c5, c6, c7, c8⟩ := vis_cells hb3
  obtain ⟨d0, d1, d2, d3, d4, d5, d6, d7⟩ := act4_cells hact
  have hlt2 := (Array.getElem?_eq_some_iff.1 hact).1
  have hsz2 := start_size hb3
  have hlt3 : h < w2.heap.size + 1 := by omega
  have hsz3 : w.heap.size + 1 + 1 < w2.heap.size + 1 := by omega
  clear hb3 hb2 hact hlt hsz
  go_wp2_with (go_at_call 7; refine (plain_true _ _).mono ?_; rintro e w' ⟨rfl, rfl⟩)
  go_ret
  exact ⟨by simp, ((below_of_start HB3.out).alloc (by omega) _).alloc (by simp; omega) _⟩

set_option maxHeartbeats 4000000 in
set_option maxRecDepth 100000 in
theorem walk_initB (a4 : Option Addr) (n cap : Nat) (a6 : ByteArray) (a7 a8 : Bool) (a9 a10 : Int) (w : World) (hn : n ≤ 1024) (s0 s1 : Nat → ByteArray) (hr : Row w a4 n s0 s1) :
    Calls Yba.prog 3 #[.bool true, .bool true, .bool true, .string a6, .slice a4 n cap, .bool false, .string a6, .bool a7, .bool a8, .int .i64 a9, .int .i64 a10] w fun e w' => e = .returned (.bool true) ∧ Below w.heap.size w w' := by
  have hmm := @run_makeMap Yba.prog
  have hin := run_insert
  have hval : Hid ((if a6 = a6 then .slice a4 n cap else .slice .none 0 0) = (.slice a4 n cap : Value)) := if_pos rfl
  have HR := hide hr
  clear hr
  go_enter Yba.func3, Yba.ntmps3
  go_wp2_with (first | (go_at_call 6; refine (ota_init w a6 (.slice a4 n cap) a6 a9 a10 a7 a8 a4 n cap s0 s1 hval HR hn).mono ?_; rintro e w1 ⟨h, a', c', rfl, hact, hcop, hb⟩; have HB := hide hb; have HC := hide hcop; have HA := hide hact; obtain ⟨c0, c1, c2, c3, c4, c5, c6, c7, c8⟩ := vis_cells hb; obtain ⟨d0, d1, d2, d3, d4, d5, d6, d7⟩ := act4_cells hact; have hsz := start_size hb; have hlt := (Array.getElem?_eq_some_iff.1 hact).1; clear hb hcop hact) | (go_at_call 7; refine (plain_true _ _).mono ?_; rintro e w' ⟨rfl, rfl⟩))
  refine (upd_any a' a4 n c' cap (w.heap.size + 4) s0 s1 _ hn (HC.out.below ((Below.refl _ _).alloc (Nat.le_refl _) _)) (HR.out.far ((below_of_start HB.out).alloc (by omega) _)) (fun h0 x hx => Nat.lt_of_lt_of_le (HR.out.lt h0 x hx) (by omega))).mono ?_
  rintro e w2 ⟨rfl, hb2⟩
  obtain ⟨hb3, hk⟩ := on HB.out hb2
  have HB3 := hide hb3
  have hact := (hk h hlt).trans HA.out
  clear c0 c1 c2 c3 c4 c5 c6 c7 c8 d0 d1 d2 d3 d4 d5 d6 d7 hk
  obtain ⟨c0, c1, c2, c3, c4, c5, c6, c7, c8⟩ := vis_cells hb3
  obtain ⟨d0, d1, d2, d3, d4, d5, d6, d7⟩ := act4_cells hact
  have hlt2 := (Array.getElem?_eq_some_iff.1 hact).1
  have hsz2 := start_size hb3
  have hlt3 : h < w2.heap.size + 1 := by omega
  have hsz3 : w.heap.size + 1 + 1 < w2.heap.size + 1 := by omega
  clear hb3 hb2 hact hlt hsz
  go_wp2_with (go_at_call 7; refine (plain_true _ _).mono ?_; rintro e w' ⟨rfl, rfl⟩)
  go_ret
  exact ⟨by simp, ((below_of_start HB3.out).alloc (by omega) _).alloc (by simp; omega) _⟩

set_option maxHeartbeats 4000000 in
set_option maxRecDepth 100000 in
theorem walk_initC (a3 : ByteArray) (a4 : Option Addr) (n cap : Nat) (a6 : ByteArray) (a7 a8 : Bool) (a9 a10 : Int) (w : World) (hn : n ≤ 1024) (s0 s1 : Nat → ByteArray) (hne : (a6.toList == a3.toList) = false) :
    Calls Yba.prog 3 #[.bool true, .bool true, .bool true, .string a3, .slice a4 n cap, .bool false, .string a6, .bool a7, .bool a8, .int .i64 a9, .int .i64 a10] w fun e w' => e = .returned (.bool true) ∧ Below w.heap.size w w' := by
  have hmm := @run_makeMap Yba.prog
  have hin := run_insert
  have hval : Hid ((if a6 = a3 then .slice a4 n cap else .slice .none 0 0) = (.slice .none 0 0 : Value)) := if_neg (by rintro rfl; simp at hne)
  have HR : Hid (Row w .none 0 s0 s1) := hide (.inl rfl)
  have hz : 0 ≤ 1024 := by omega
  go_enter Yba.func3, Yba.ntmps3
  go_wp2_with (first | (go_at_call 6; refine (ota_init w a3 (.slice a4 n cap) a6 a9 a10 a7 a8 .none 0 0 s0 s1 hval HR hz).mono ?_; rintro e w1 ⟨h, a', c', rfl, hact, hcop, hb⟩; have HB := hide hb; have HC := hide hcop; have HA := hide hact; obtain ⟨c0, c1, c2, c3, c4, c5, c6, c7, c8⟩ := vis_cells hb; obtain ⟨d0, d1, d2, d3, d4, d5, d6, d7⟩ := act4_cells hact; have hsz := start_size hb; have hlt := (Array.getElem?_eq_some_iff.1 hact).1; clear hb hcop hact) | (go_at_call 7; refine (plain_true _ _).mono ?_; rintro e w' ⟨rfl, rfl⟩))
  refine (upd_any a' .none 0 c' 0 (w.heap.size + 4) s0 s1 _ hz (HC.out.below ((Below.refl _ _).alloc (Nat.le_refl _) _)) (HR.out.far ((below_of_start HB.out).alloc (by omega) _)) (fun h0 x hx => Nat.lt_of_lt_of_le (HR.out.lt h0 x hx) (by omega))).mono ?_
  rintro e w2 ⟨rfl, hb2⟩
  obtain ⟨hb3, hk⟩ := on HB.out hb2
  have HB3 := hide hb3
  have hact := (hk h hlt).trans HA.out
  clear c0 c1 c2 c3 c4 c5 c6 c7 c8 d0 d1 d2 d3 d4 d5 d6 d7 hk
  obtain ⟨c0, c1, c2, c3, c4, c5, c6, c7, c8⟩ := vis_cells hb3
  obtain ⟨d0, d1, d2, d3, d4, d5, d6, d7⟩ := act4_cells hact
  have hlt2 := (Array.getElem?_eq_some_iff.1 hact).1
  have hsz2 := start_size hb3
  have hlt3 : h < w2.heap.size + 1 := by omega
  have hsz3 : w.heap.size + 1 + 1 < w2.heap.size + 1 := by omega
  clear hb3 hb2 hact hlt hsz
  go_wp2_with (go_at_call 7; refine (plain_true _ _).mono ?_; rintro e w' ⟨rfl, rfl⟩)
  go_ret
  exact ⟨by simp, ((below_of_start HB3.out).alloc (by omega) _).alloc (by simp; omega) _⟩

end Go.Proofs.Ybulkattk.exact
