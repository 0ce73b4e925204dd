/-
  Of LawS2259AExact: overTheAir; the calls of the law's own helpers.
-/
import Derived.Test.YbulkattkExactMid
namespace Go.Proofs.Ybulkattk.exact
open Go.ChangeShapes Go.WideShapes Go.ChangeAt Go.RowKit Go

def CF : ByteArray := ⟨#[99, 108, 101, 97, 114, 45, 102, 111, 114, 98, 105, 100, 100, 101, 110]⟩
def CR : ByteArray := ⟨#[99, 108, 101, 97, 114, 45, 114, 101, 103, 105, 115, 116, 101, 114, 101, 100]⟩
def RI : ByteArray := ⟨#[114, 101, 102, 114, 101, 115, 104, 45, 105, 110, 105, 116]⟩
def SM : ByteArray := ⟨#[115, 109, 115, 45, 114, 101, 115, 116, 97, 114, 116]⟩

def Pol (r : Nat) (ota : Bool) : Obj := .cells #[.slice .none 0 0, .map (some r), .int .i64 0, .int .i64 0, .int .i64 0, .string ⟨#[]⟩, .bool ota, .map .none, .map .none, .pointer .none, .pointer .none, .pointer .none, .pointer .none, .pointer .none, .pointer .none] 33
def Vis (mcc : ByteArray) (rna rounds : Int) (waiting closed : Bool) : Obj := .cells #[.string mcc, .string ⟨#[114, 110, 97]⟩, .int .i64 rna, .int .i64 rounds, .int .i64 0, .string ⟨#[]⟩, .string ⟨#[]⟩, .bool waiting, .bool closed] 39
def Act2 (a' : Option Addr) (n c' : Nat) : Obj := .cells #[.string UP, .slice a' n c', .string SM, .slice .none 0 0] 47
def Act4 (a' : Option Addr) (n c' : Nat) : Obj := .cells #[.string CF, .slice .none 0 0, .string UP, .slice a' n c', .string CR, .slice .none 0 0, .string RI, .slice .none 0 0] 47

/-- the world in which overTheAir is called: the map, the policy, the visit -/
def Start (w : World) (key : ByteArray) (pv : Value) (ota : Bool) (mcc : ByteArray) (rna rounds : Int) (waiting closed : Bool) : World :=
  ((w.alloc (oneEntry key pv)).alloc (Pol w.heap.size ota)).alloc (Vis mcc rna rounds waiting closed)

set_option maxHeartbeats 1000000 in
set_option maxRecDepth 100000 in
theorem ota_off (w : World) (key : ByteArray) (pv : Value) (mcc : ByteArray) (rna rounds : Int) (waiting closed stk ref : Bool) :
    Calls Yba.prog 6 #[.pointer (some ⟨w.heap.size + 1, 0, .none⟩), .pointer (some ⟨w.heap.size + 1 + 1, 0, .none⟩), .agg #[.bool false, .bool false, .bool false, .bool stk, .bool false, .bool ref]]
      (Start w key pv false mcc rna rounds waiting closed) fun e w' => e = .returned (.slice .none 0 0) ∧ Below (w.heap.size + 3) (Start w key pv false mcc rna rounds waiting true) w' := by
  unfold Start Pol Vis
  go_enter Yba.func6, Yba.ntmps6
  go_wp2
  go_ret
  exact ⟨rfl, (Below.refl _ _).alloc (by simp) _⟩

theorem start_map (w : World) (key : ByteArray) (pv : Value) (ota : Bool) (mcc : ByteArray) (rna rounds : Int) (waiting closed : Bool) (O : Obj) : ((Start w key pv ota mcc rna rounds waiting closed).alloc O).heap[w.heap.size]? = some (oneEntry key pv) := by
  unfold Start
  rw [Below.heap_alloc _ _ _ (by simp; omega), Below.heap_alloc _ _ _ (by simp; omega), Below.heap_alloc _ _ _ (by simp)]
  exact heap_alloc_new _ _
theorem start_pol (w : World) (key : ByteArray) (pv : Value) (ota : Bool) (mcc : ByteArray) (rna rounds : Int) (waiting closed : Bool) (O : Obj) : ((Start w key pv ota mcc rna rounds waiting closed).alloc O).heap[w.heap.size + 1]? = some (Pol w.heap.size ota) := by
  unfold Start
  rw [Below.heap_alloc _ _ _ (by simp), Below.heap_alloc _ _ _ (by simp)]
  have e : (w.alloc (oneEntry key pv)).heap.size = w.heap.size + 1 := by simp
  rw [← e]
  exact heap_alloc_new _ _
theorem start_vis (w : World) (key : ByteArray) (pv : Value) (ota : Bool) (mcc : ByteArray) (rna rounds : Int) (waiting closed : Bool) (O : Obj) : ((Start w key pv ota mcc rna rounds waiting closed).alloc O).heap[w.heap.size + 1 + 1]? = some (Vis mcc rna rounds waiting closed) := by
  unfold Start
  rw [Below.heap_alloc _ _ _ (by simp)]
  have e : ((w.alloc (oneEntry key pv)).alloc (Pol w.heap.size ota)).heap.size = w.heap.size + 1 + 1 := by simp
  rw [← e]
  exact heap_alloc_new _ _
theorem start_below (w : World) (key : ByteArray) (pv : Value) (ota : Bool) (mcc : ByteArray) (rna rounds : Int) (waiting closed : Bool) : Below w.heap.size w (Start w key pv ota mcc rna rounds waiting closed) := by
  unfold Start
  exact (((Below.refl _ w).alloc (Nat.le_refl _) _).alloc (by simp) _).alloc (by simp; omega) _
theorem Row.far {w w' : World} {a : Option Addr} {n : Nat} {s0 s1 : Nat → ByteArray} (h : Row w a n s0 s1) (hb : Below w.heap.size w w') : Row w' a n s0 s1 := by
  rcases h with h | ⟨b, off, e, hlt, h⟩
  · exact .inl h
  · exact Row.below (.inr ⟨b, off, e, hlt, h⟩) hb (by rw [e]; rintro x hx; cases hx; exact hlt)
theorem hid_mk {p : Prop} (h : p) : Hid p := h

theorem fin_below {w w1 : World} {key : ByteArray} {pv : Value} {ota : Bool} {mcc : ByteArray} {rna rounds : Int} {waiting closed : Bool} {O : Obj} (hb : Below (w.heap.size + 4) ((Start w key pv ota mcc rna rounds waiting closed).alloc O) w1) (hs : w.heap.size + 4 ≤ w1.heap.size) (O' : Obj) :
    Below (w.heap.size + 3) (Start w key pv ota mcc rna rounds waiting closed) (w1.alloc O') :=
  (((Below.refl (w.heap.size + 3) (Start w key pv ota mcc rna rounds waiting closed)).alloc (by simp [Start]) O).trans (hb.mono (by omega))).alloc (by omega) O'

theorem ota_upd (w : World) (key : ByteArray) (pv : Value) (ota : Bool) (mcc : ByteArray) (rna rounds : Int) (waiting closed : Bool) (O : Obj) (a : Option Addr) (n c : Nat) (s0 s1 : Nat → ByteArray)
    (hval : Hid ((if mcc = key then pv else .slice .none 0 0) = .slice a n c)) (hr : Hid (Row w a n s0 s1)) (hn : n ≤ 1024) :
    Calls Yba.prog 10 #[.pointer (some ⟨w.heap.size + 1, 0, .none⟩), .pointer (some ⟨w.heap.size + 1 + 1, 0, .none⟩)] ((Start w key pv ota mcc rna rounds waiting closed).alloc O) fun e w' => ∃ a' c', e = .returned (.agg #[.string UP, .slice a' n c']) ∧
      Copied (w.heap.size + 4) w' a' n s0 s1 ∧ w.heap.size + 4 ≤ w'.heap.size ∧ Below (w.heap.size + 4) ((Start w key pv ota mcc rna rounds waiting closed).alloc O) w' := by
  have hz : ((Start w key pv ota mcc rna rounds waiting closed).alloc O).heap.size = w.heap.size + 4 := by simp [Start]
  have h := updPref (w.heap.size + 1) (w.heap.size + 1 + 1) w.heap.size key mcc pv a n c s0 s1 ((Start w key pv ota mcc rna rounds waiting closed).alloc O)
    (by have := start_pol w key pv ota mcc rna rounds waiting closed O; simp [World.cell?, this, Pol])
    (by have := start_vis w key pv ota mcc rna rounds waiting closed O; simp [World.cell?, this, Vis])
    (start_map ..) hval.out (Row.far hr.out ((start_below ..).alloc (by simp [Start]; omega) O)) hn
  rw [hz] at h
  refine h.mono ?_
  rintro e w' ⟨a', c', rfl, h1, h2⟩
  exact ⟨a', c', rfl, h1, by have := h2.size; omega, h2⟩

set_option maxHeartbeats 1000000 in
set_option maxRecDepth 100000 in
theorem ota_init (w : World) (key : ByteArray) (pv : Value) (mcc : ByteArray) (rna rounds : Int) (waiting closed : Bool) (a : Option Addr) (n c : Nat) (s0 s1 : Nat → ByteArray)
    (hval : Hid ((if mcc = key then pv else .slice .none 0 0) = .slice a n c)) (hr : Hid (Row w a n s0 s1)) (hn : n ≤ 1024) :
    Calls Yba.prog 6 #[.pointer (some ⟨w.heap.size + 1, 0, .none⟩), .pointer (some ⟨w.heap.size + 1 + 1, 0, .none⟩), .agg #[.bool false, .bool false, .bool false, .bool true, .bool false, .bool true]]
      (Start w key pv true mcc rna rounds waiting closed) fun e w' => ∃ h a' c', e = .returned (.slice (some ⟨h, 0, .none⟩) 4 4) ∧ w'.heap[h]? = some (Act4 a' n c') ∧ Copied (w.heap.size + 4) w' a' n s0 s1 ∧
        Below (w.heap.size + 3) (Start w key pv true mcc rna rounds true closed) w' := by
  unfold Act4 CF CR RI UP
  unfold Start Pol Vis
  go_enter Yba.func6, Yba.ntmps6
  go_wp2_with (go_at_call 10; refine (ota_upd w key pv true mcc rna rounds true closed _ a n c s0 s1 hval hr hn).mono ?_; rintro e w1 ⟨a', c', rfl, hcop, hsz, hbel⟩; have HC := hide hcop; have HB := hide hbel; clear hcop hbel; unfold UP)
  go_ret
  exact ⟨_, a', c', rfl, heap_alloc_new _ _, HC.out.below ((Below.refl _ _).alloc (Nat.le_refl _) _), fin_below HB.out hsz _⟩

set_option maxHeartbeats 1000000 in
set_option maxRecDepth 100000 in
theorem ota_sms (w : World) (key : ByteArray) (pv : Value) (mcc : ByteArray) (rna rounds : Int) (waiting closed stk ref : Bool) (a : Option Addr) (n c : Nat) (s0 s1 : Nat → ByteArray)
    (hval : Hid ((if mcc = key then pv else .slice .none 0 0) = .slice a n c)) (hr : Hid (Row w a n s0 s1)) (hn : n ≤ 1024) (hno : (stk && ref) = false) :
    Calls Yba.prog 6 #[.pointer (some ⟨w.heap.size + 1, 0, .none⟩), .pointer (some ⟨w.heap.size + 1 + 1, 0, .none⟩), .agg #[.bool false, .bool false, .bool false, .bool stk, .bool false, .bool ref]]
      (Start w key pv true mcc rna rounds waiting closed) fun e w' => ∃ h a' c', e = .returned (.slice (some ⟨h, 0, .none⟩) 2 2) ∧ w'.heap[h]? = some (Act2 a' n c') ∧ Copied (w.heap.size + 4) w' a' n s0 s1 ∧
        Below (w.heap.size + 3) (Start w key pv true mcc rna rounds waiting true) w' := by
  unfold Act2 SM UP
  unfold Start Pol Vis
  cases stk <;> cases ref
  case true.true => cases hno
  all_goals
    go_enter Yba.func6, Yba.ntmps6
    go_wp2_with (go_at_call 10; refine (ota_upd w key pv true mcc rna rounds waiting true _ a n c s0 s1 hval hr hn).mono ?_; rintro e w1 ⟨a', c', rfl, hcop, hsz, hbel⟩; have HC := hide hcop; have HB := hide hbel; clear hcop hbel; unfold UP)
    go_ret
    exact ⟨_, a', c', rfl, heap_alloc_new _ _, HC.out.below ((Below.refl _ _).alloc (Nat.le_refl _) _), fin_below HB.out hsz _⟩

/-- zzs2259aplain at the kind asked for. -/
theorem plain_true (k : ByteArray) (w : World) : Calls Yba.prog 7 #[.agg #[.string k, .slice .none 0 0], .string k] w fun e w' => e = .returned (.bool true) ∧ w' = w.alloc (.cells #[.string k, .slice .none 0 0] 47) := by
  have q22 := fun (w : World) a n c n' c' => Lib.run_eql_slice_nil (P := Yba.prog) w 22 _ a n c n' c' Yba.underlying22
  go_enter Yba.func7, Yba.ntmps7
  go_wp2
  go_ret
  exact ⟨rfl, rfl⟩

/-- zzs2259aupd at a copy. -/
theorem upd_any (a' wa : Option Addr) (n ca cb B : Nat) (s0 s1 : Nat → ByteArray) (w : World) (hn : n ≤ 1024) (hc : Copied B w a' n s0 s1) (hr : Row w wa n s0 s1) (hlt : n ≠ 0 → ∀ x, wa = some x → x.block < B) :
    Calls Yba.prog 8 #[.agg #[.string UP, .slice a' n ca], .slice wa n cb] w fun e w' => e = .returned (.bool true) ∧ Below w.heap.size w w' := by
  by_cases h0 : n = 0
  · subst h0
    exact upd_zero a' wa ca cb w
  · obtain ⟨hr', hg⟩ := hc
    obtain ⟨g, cur, rfl, hB, hh⟩ := hg h0
    rcases hr' with h | ⟨b1, o1, e1, _, h1⟩
    · exact absurd h h0
    cases e1
    rcases hr with h | ⟨b, off, rfl, _, h2⟩
    · exact absurd h h0
    have hb : b < B := hlt h0 _ rfl
    exact upd_pos g b off n ca cb cur s0 s1 w hn (Nat.pos_of_ne_zero h0) (Nat.ne_of_gt (Nat.lt_of_lt_of_le hb hB)) hh h1 h2
end Go.Proofs.Ybulkattk.exact
