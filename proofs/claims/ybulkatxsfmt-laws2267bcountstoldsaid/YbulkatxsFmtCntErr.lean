/-
  Of LawS2267BCounts: the errors: String, fmt.Errorf.
-/
import Derived.Test.YbulkatxsFmtCntBase
namespace Go.Proofs.YbulkatxsFmt.cnt
open Go.ChangeShapes Go.WideShapes Go.ChangeAt Go.RowKit Go
open Go.Extern.Stop Go.Stop Go.Extern

theorem op119 (name : String) (a : Addr) (s : ByteArray) (w : World) (hc : w.cell? a = some (.string s)) :
    (FmtStop.operand name true 119 false (.iface 119 (.pointer (some a)))).run Ybaf.prog w = .ok (plain119, s.data.toList) w := by
  have h1 : (typeStr 119).run Ybaf.prog w = .ok "*errors.errorString" w := by kernel_rfl
  have d2 : Ybaf.t119.desc = .pointer 121 := rfl
  have d3 : Ybaf.t121.desc = .named "errors.errorString" 120 := rfl
  simp [FmtStop.operand, h1, d2, d3, run_load, hc, plain119]
theorem op104 (name : String) (a : Addr) (s : ByteArray) (w : World) (hc : w.cell? a = some (.string s)) :
    (FmtStop.operand name true 119 false (.iface 104 (.pointer (some a)))).run Ybaf.prog w = .ok (plain104, s.data.toList) w := by
  have h1 : (typeStr 104).run Ybaf.prog w = .ok "*fmt.wrapError" w := by kernel_rfl
  have d2 : Ybaf.t104.desc = .pointer 158 := rfl
  have d3 : Ybaf.t158.desc = .named "fmt.wrapError" 157 := rfl
  simp [FmtStop.operand, h1, d2, d3, run_load, hc, plain104]

set_option maxHeartbeats 1000000 in
set_option maxRecDepth 100000 in
theorem kind_string (w : World) : Calls Ybaf.prog 31 #[.int .u8 0] w fun e w' => ∃ s : ByteArray, e = .returned (.string s) ∧ w' = w := by
  have hidx : ∀ w : World, (Instr.index 128 (.agg #[.string ⟨#[85, 115, 101, 114, 95, 65, 108, 105, 97, 115]⟩, .string ⟨#[72, 111, 115, 116, 95, 65, 108, 105, 97, 115]⟩, .string ⟨#[82, 117, 110, 97, 115, 95, 65, 108, 105, 97, 115]⟩, .string ⟨#[67, 109, 110, 100, 95, 65, 108, 105, 97, 115]⟩]) (.int .u8 0)).run Ybaf.prog w = .ok (.string ⟨#[85, 115, 101, 114, 95, 65, 108, 105, 97, 115]⟩) w := fun _ => by kernel_rfl
  go_enter Ybaf.func31, Ybaf.ntmps31
  go_wp2
  go_ret
  exact ⟨_, rfl, rfl⟩

set_option maxHeartbeats 1000000 in
set_option maxRecDepth 100000 in
theorem key_string (F : Interp) (s : ByteArray) (w : World) (hF : F.answers w.tape) :
    Calls Ybaf.prog 22 #[.agg #[.int .u8 0, .string s]] w fun e w' => ∃ t : ByteArray, e = .returned (.string t) ∧ Below w.heap.size w w' := by
  have hF' := answers_open hF
  have h1 := call30
  have h2 := guard
  have h3 := fmtD
  have h4 := fmtDr
  have h5 := act31
  have h6 := act9
  have h7 := op9
  have h8 := str31
  go_enter Ybaf.func22, Ybaf.ntmps22
  go_wp2
  apply rows_call nextTurns
  case hr =>
    go_simp
    exact ⟨⟨rfl, rfl, rfl⟩, rfl⟩
  case hi => exact inv31 _ _
  case hc =>
    refine (kind_string _).mono fun e w₃ ⟨s, he, hx⟩ => ?_
    subst he; subst hx
    apply rows_value nextReturned
    case hr =>
      go_simp
      exact ⟨rfl, rfl⟩
    case h =>
      go_wp2
      go_ret
      exact ⟨⟨_, rfl⟩, (((Below.refl _ w).alloc (Nat.le_refl _) _).alloc (by simp) _).drew⟩

theorem new2_0 (w : World) (a b : Value) (t : TypeId) : (w.alloc (.cells #[a, b] t)).drew.cell? ⟨w.heap.size, 0, .none⟩ = some a := by simp
theorem new2_1 (w : World) (a b : Value) (t : TypeId) : (w.alloc (.cells #[a, b] t)).drew.cell? ⟨w.heap.size, 1, .none⟩ = some b := by simp

set_option maxHeartbeats 1000000 in
set_option maxRecDepth 100000 in
/-- fmt.Errorf("%w: %v", sentinel, key). -/
theorem errorfA (F : Interp) (q : Addr) (b : Nat) (t s : ByteArray) (w : World) (hF : F.answers w.tape) (hq : w.cell? q = some (.string t)) (h0 : w.cell? ⟨b, 0, .none⟩ = some (.iface 119 (.pointer (some q)))) (h1 : w.cell? ⟨b, 1, .none⟩ = some (.iface 33 (.agg #[.int .u8 0, .string s]))) :
    Calls Ybaf.prog 11 #[.string ⟨#[37, 119, 58, 32, 37, 118]⟩, .slice (some ⟨b, 0, .none⟩) 2 2] w fun e w' => ∃ (x : Nat) (u : ByteArray), e = .returned (.iface 104 (.pointer (some ⟨x, 0, .none⟩))) ∧ w.heap.size ≤ x ∧ x < w'.heap.size ∧
      w'.cell? ⟨x, 0, .none⟩ = some (.string u) ∧ w'.cell? ⟨x, 1, .none⟩ = some (.iface 119 (.pointer (some q))) ∧ Below w.heap.size w w' := by
  have hF' := answers_open hF
  have h1' := call20
  have h2 := guard
  have h3 := fmtA
  have h4 := fmtAr
  have h5 := act119
  have h6 := act33
  have h7 := fun name => op119 name q t w hq
  have h8 := str33
  have h9 := ptr104
  have h10 := elem104
  have h11 := err104
  have h12 := err119
  go_enter Ybaf.func11, Ybaf.ntmps11
  go_wp2
  apply rows_call nextTurns
  case hr =>
    go_simp
    exact ⟨⟨rfl, rfl, rfl⟩, rfl⟩
  case hi => exact inv33 _ _
  case hc =>
    refine (key_string F s _ (by exact hF)).mono fun e w₃ ⟨u, he, hx⟩ => ?_
    subst he
    have hq3 := (hx.cell (p := q) (World.block_lt_of_cell? w _ hq)).trans hq
    have hb30 := (hx.cell (p := ⟨b, 0, .none⟩) (World.block_lt_of_cell? w _ h0)).trans h0
    have hb31 := (hx.cell (p := ⟨b, 1, .none⟩) (World.block_lt_of_cell? w _ h1)).trans h1
    have h73 := fun name => op119 name q t w₃ hq3
    have hF3 := answers_open (show F.answers w₃.tape by rw [hx.tape]; exact hF)
    have HX := hide hx
    clear hx h7
    apply rows_value nextReturned
    case hr =>
      go_simp
      exact ⟨rfl, rfl⟩
    case h =>
      go_wp2
      go_ret
      exact ⟨_, _, rfl, HX.out.size, by simp, new2_0 _ _ _ _, new2_1 _ _ _ _, (HX.out.alloc HX.out.size _).drew⟩

set_option maxHeartbeats 1000000 in
set_option maxRecDepth 100000 in
/-- fmt.Errorf("%w: %v includes itself", sentinel, key). -/
theorem errorfB (F : Interp) (q : Addr) (b : Nat) (t s : ByteArray) (w : World) (hF : F.answers w.tape) (hq : w.cell? q = some (.string t)) (h0 : w.cell? ⟨b, 0, .none⟩ = some (.iface 119 (.pointer (some q)))) (h1 : w.cell? ⟨b, 1, .none⟩ = some (.iface 33 (.agg #[.int .u8 0, .string s]))) :
    Calls Ybaf.prog 11 #[.string ⟨#[37, 119, 58, 32, 37, 118, 32, 105, 110, 99, 108, 117, 100, 101, 115, 32, 105, 116, 115, 101, 108, 102]⟩, .slice (some ⟨b, 0, .none⟩) 2 2] w fun e w' => ∃ (x : Nat) (u : ByteArray), e = .returned (.iface 104 (.pointer (some ⟨x, 0, .none⟩))) ∧ w.heap.size ≤ x ∧ x < w'.heap.size ∧
      w'.cell? ⟨x, 0, .none⟩ = some (.string u) ∧ w'.cell? ⟨x, 1, .none⟩ = some (.iface 119 (.pointer (some q))) ∧ Below w.heap.size w w' := by
  have hF' := answers_open hF
  have h1' := call20
  have h2 := guard
  have h3 := fmtB
  have h4 := fmtBr
  have h5 := act119
  have h6 := act33
  have h7 := fun name => op119 name q t w hq
  have h8 := str33
  have h9 := ptr104
  have h10 := elem104
  have h11 := err104
  have h12 := err119
  go_enter Ybaf.func11, Ybaf.ntmps11
  go_wp2
  apply rows_call nextTurns
  case hr =>
    go_simp
    exact ⟨⟨rfl, rfl, rfl⟩, rfl⟩
  case hi => exact inv33 _ _
  case hc =>
    refine (key_string F s _ (by exact hF)).mono fun e w₃ ⟨u, he, hx⟩ => ?_
    subst he
    have hq3 := (hx.cell (p := q) (World.block_lt_of_cell? w _ hq)).trans hq
    have hb30 := (hx.cell (p := ⟨b, 0, .none⟩) (World.block_lt_of_cell? w _ h0)).trans h0
    have hb31 := (hx.cell (p := ⟨b, 1, .none⟩) (World.block_lt_of_cell? w _ h1)).trans h1
    have h73 := fun name => op119 name q t w₃ hq3
    have hF3 := answers_open (show F.answers w₃.tape by rw [hx.tape]; exact hF)
    have HX := hide hx
    clear hx h7
    apply rows_value nextReturned
    case hr =>
      go_simp
      exact ⟨rfl, rfl⟩
    case h =>
      go_wp2
      go_ret
      exact ⟨_, _, rfl, HX.out.size, by simp, new2_0 _ _ _ _, new2_1 _ _ _ _, (HX.out.alloc HX.out.size _).drew⟩

set_option maxHeartbeats 1000000 in
set_option maxRecDepth 100000 in
/-- fmt.Errorf("%w through %q", err, name). -/
theorem errorfC (F : Interp) (q b : Nat) (t s : ByteArray) (w : World) (hF : F.answers w.tape) (hq : w.cell? ⟨q, 0, .none⟩ = some (.string t)) (h0 : w.cell? ⟨b, 0, .none⟩ = some (.iface 104 (.pointer (some ⟨q, 0, .none⟩)))) (h1 : w.cell? ⟨b, 1, .none⟩ = some (.iface 9 (.string s))) :
    Calls Ybaf.prog 11 #[.string ⟨#[37, 119, 32, 116, 104, 114, 111, 117, 103, 104, 32, 37, 113]⟩, .slice (some ⟨b, 0, .none⟩) 2 2] w fun e w' => ∃ (x : Nat) (u : ByteArray), e = .returned (.iface 104 (.pointer (some ⟨x, 0, .none⟩))) ∧ w.heap.size ≤ x ∧ x < w'.heap.size ∧
      w'.cell? ⟨x, 0, .none⟩ = some (.string u) ∧ w'.cell? ⟨x, 1, .none⟩ = some (.iface 104 (.pointer (some ⟨q, 0, .none⟩))) ∧ Below w.heap.size w w' := by
  have hF' := answers_open hF
  have h1' := call20
  have h2 := guard
  have h3 := fmtC
  have h4 := fmtCr
  have h5 := act104
  have h6 := act9w
  have h6' := op9w
  have h7 := fun name => op104 name ⟨q, 0, .none⟩ t w hq
  have h9 := ptr104
  have h10 := elem104
  have h11 := err104
  go_enter Ybaf.func11, Ybaf.ntmps11
  go_wp2
  apply rows_value nextTurns
  case hr =>
    go_simp
    exact ⟨rfl, rfl⟩
  case h =>
    go_wp2
    go_ret
    exact ⟨_, _, rfl, Nat.le_refl _, by simp, new2_0 _ _ _ _, new2_1 _ _ _ _, ((Below.refl _ w).alloc (Nat.le_refl _) _).drew⟩
end Go.Proofs.YbulkatxsFmt.cnt
