/-
  Of LawS2262ATwinFlag: the closed facts on fmt.Sprintf at this program; Clock.Get at a nil clock, Event.Own, the names of events.
-/
import Derived.Test.YbulkatvaFmtRows
import Derived.Stop.CallBack
import Derived.Stop.IfaceNil
import Derived.Stop.JoinedTold
import Derived.Stop.Texts
import GoSem.ClaimData
import Derived.WalkKit
import Derived.WalkSpells
import Derived.ProofKit
import Derived.OwnWalk
import Derived.Deep.QuietTactic
import Derived.BigQuiet
import Derived.Deep.RegionHeld3
import Derived.WalkSmall
import Derived.Outline
namespace Go.Proofs.YbulkatvaFmt.twin
open Go.ChangeShapes Go.WideShapes Go.ChangeAt Go.RowKit Go
open Go.Extern.Stop Go.Stop Go.Extern

theorem hide {p : Prop} (h : p) : Hid p := h

theorem call13 (args : Array Value) (w : World) : (callFunc 13 args).run Ybaf.prog w = ((FmtStop.sprintf #[9, 72] #[9] args).run Ybaf.prog w).andThen fun v w' => .ok (.value v) w' :=
  run_callFunc_extern Ybaf.func13 (by kernel_rfl) (by kernel_rfl) (by kernel_rfl) (by kernel_rfl) args w
theorem guard (name : String) (w : World) : (FmtStop.guard name).run Ybaf.prog w = .ok () w := by kernel_rfl
theorem fmt0 : FmtStop.printed? ⟨#[37, 115, 58, 37, 100]⟩ 2 = some [(0, 115, false), (1, 100, false)] := by kernel_rfl
theorem fmt0r (w : World) : (FmtDoors.printed ⟨#[37, 115, 58, 37, 100]⟩ 2).run Ybaf.prog w = .ok [(0, 115, false), (1, 100, false)] w := by kernel_rfl
def shape9 : List UInt8 := [12, 6, 0, 0, 0, 0, 0, 0, 0, 115, 116, 114, 105, 110, 103]
theorem op9 (name : String) (x : ByteArray) (w : World) : (FmtStop.operand name false 115 false (.iface 9 (.string x))).run Ybaf.prog w = .ok (shape9, FmtStop.pack x.data.toList) w := by kernel_rfl
def shape3 : List UInt8 := [5, 3, 0, 0, 0, 0, 0, 0, 0, 105, 110, 116]
theorem op3 (name : String) (x : Int) (w : World) : (FmtStop.operand name false 100 false (.iface 3 (.int .i64 x))).run Ybaf.prog w = .ok (shape3, Go.Extern.Stop.digits 8 (x % 2 ^ 64).toNat) w := by kernel_rfl
def shape45 : List UInt8 := [9, 6, 0, 0, 0, 0, 0, 0, 0, 117, 105, 110, 116, 54, 52]
theorem op45 (name : String) (x : Int) (w : World) : (FmtStop.operand name false 100 false (.iface 45 (.int .u64 x))).run Ybaf.prog w = .ok (shape45, Go.Extern.Stop.digits 8 (x % 2 ^ 64).toNat) w := by kernel_rfl

set_option maxHeartbeats 1000000 in
set_option maxRecDepth 100000 in
/-- slices.BinarySearchFunc over nil. -/
theorem search_nil (p : Int) (f : Value) (w : World) : Calls Ybaf.prog 44 #[.slice .none 0 0, .int .i64 p, f] w fun e w' => e = .returned (.tuple #[.int .i64 0, .bool false]) ∧ w' = w := by
  go_enter Ybaf.func44, Ybaf.ntmps44
  go_wp2
  refine wp_loop_rounds 1 ?_
  rw [rounds_succ]
  go_wp2
  go_ret2
  exact ⟨rfl, rfl⟩

set_option maxHeartbeats 1000000 in
set_option maxRecDepth 100000 in
theorem get_nil (p : Int) (w : World) : Calls Ybaf.prog 32 #[.slice .none 0 0, .int .i64 p] w fun e w' => e = .returned (.int .u64 0) ∧ w' = w := by
  go_enter Ybaf.func32, Ybaf.ntmps32
  go_wp2_with (go_at_call 44; refine (search_nil _ _ _).mono ?_; rintro e w' ⟨rfl, rfl⟩)
  go_ret
  exact ⟨rfl, rfl⟩

set_option maxHeartbeats 1000000 in
set_option maxRecDepth 100000 in
theorem own_zero (b o : Nat) (p : Int) (w : World) (hp : w.cell? ⟨b, o + 1, .none⟩ = some (.int .i64 p)) (hc : w.cell? ⟨b, o + 2, .none⟩ = some (.slice .none 0 0)) :
    Calls Ybaf.prog 20 #[.pointer (some ⟨b, o, .none⟩)] w fun e w' => e = .returned (.int .u64 0) ∧ ∃ q, w' = w.drewN q := by
  go_enter Ybaf.func20, Ybaf.ntmps20
  go_wp2
  go_quiet ((go_at_call 32; exact Calls.quiet_of_same (get_nil _ _)))
  go_wp2
  go_ret
  exact ⟨rfl, _, rfl⟩

set_option maxHeartbeats 1000000 in
set_option maxRecDepth 100000 in
/-- eventName: some text. -/
theorem eventName_any (F : Interp) (bl bn n c p : Nat) (own : Int) (s : ByteArray) (w : World) (hF : F.answers w.tape) (hl : w.cell? ⟨bl, 0, .none⟩ = some (.slice (some ⟨bn, 0, .none⟩) n c)) (hp : p < n) (hs : w.cell? ⟨bn, p, .none⟩ = some (.string s)) :
    Calls Ybaf.prog 19 #[.pointer (some ⟨bl, 0, .none⟩), .int .i64 p, .int .u64 own] w fun e w' => ∃ t : ByteArray, e = .returned (.string t) ∧ Below w.heap.size w w' := by
  have hF' := answers_open hF
  have h1 := call13
  have h2 := guard
  have h3 := fmt0
  have h4 := fmt0r
  have h5 := op9
  have h6 := op45
  have hp' : (p : Int) < (n : Int) := by omega
  go_enter Ybaf.func19, Ybaf.ntmps19
  go_wp2
  go_ret
  exact ⟨_, rfl, ((Below.refl _ w).alloc (Nat.le_refl _) _).drew⟩

theorem below_cells {w w1 : World} (hb : Below w.heap.size w w1) : (∀ b o, b < w.heap.size → w1.cell? ⟨b, o, .none⟩ = w.cell? ⟨b, o, .none⟩) :=
  fun b o h => hb.cell (p := ⟨b, o, .none⟩) h

set_option maxHeartbeats 2000000 in
set_option maxRecDepth 100000 in
/-- EventName: some text. -/
theorem EventName_any (F : Interp) (bl bn n c be oe p : Nat) (s : ByteArray) (w : World) (hF : F.answers w.tape) (hl : w.cell? ⟨bl, 0, .none⟩ = some (.slice (some ⟨bn, 0, .none⟩) n c)) (hp : p < n) (hs : w.cell? ⟨bn, p, .none⟩ = some (.string s))
    (he : w.cell? ⟨be, oe + 1, .none⟩ = some (.int .i64 p)) (hc : w.cell? ⟨be, oe + 2, .none⟩ = some (.slice .none 0 0)) :
    Calls Ybaf.prog 14 #[.pointer (some ⟨bl, 0, .none⟩), .pointer (some ⟨be, oe, .none⟩)] w fun e w' => ∃ t : ByteArray, e = .returned (.string t) ∧ Below w.heap.size w w' := by
  have HF := hide hF
  clear hF
  have llt := World.block_lt_of_cell? w _ hl
  have elt := World.block_lt_of_cell? w _ he
  go_enter Ybaf.func14, Ybaf.ntmps14
  go_wp2_with fail
  go_region_held3 (fun W => W.cell? ⟨be, oe + 1, .none⟩ = some (.int .i64 p) ∧ W.cell? ⟨be, oe + 2, .none⟩ = some (.slice .none 0 0))
    (go_keep)
    (first | (go_at_call 20; refine (own_zero be oe p _ (by assumption) (by assumption)).mono ?_; rintro e w' ⟨rfl, q, rfl⟩) | (go_at_call 19; refine (eventName_any F bl bn n c p _ s _ (by exact HF.out) (by exact hl) hp (by exact hs)).mono ?_; rintro e w1 ⟨t, rfl, hb⟩; have HB := hide hb; have k1 := below_cells hb be (oe + 1) elt; have k2 := below_cells hb be (oe + 2) elt; clear hb))
  go_wp2
  go_ret
  exact ⟨t, rfl, (below_drewN (Below.refl _ w) _).trans HB.out⟩

theorem fmt1 : FmtStop.printed? ⟨#[37, 115, 32, 111, 110, 32, 108, 105, 110, 101, 32, 37, 100, 32, 104, 97, 115, 32, 116, 104, 105, 115, 32, 118, 101, 114, 121, 32, 99, 108, 111, 99, 107, 44, 32, 115, 111, 32, 101, 97, 99, 104, 32, 111, 102, 32, 116, 104, 101, 32, 116, 119, 111, 32, 104, 97, 112, 112, 101, 110, 101, 100, 32, 98, 101, 102, 111, 114, 101, 32, 116, 104, 101, 32, 111, 116, 104, 101, 114]⟩ 2 = some [(0, 115, false), (1, 100, false)] := by kernel_rfl
theorem fmt1r (w : World) : (FmtDoors.printed ⟨#[37, 115, 32, 111, 110, 32, 108, 105, 110, 101, 32, 37, 100, 32, 104, 97, 115, 32, 116, 104, 105, 115, 32, 118, 101, 114, 121, 32, 99, 108, 111, 99, 107, 44, 32, 115, 111, 32, 101, 97, 99, 104, 32, 111, 102, 32, 116, 104, 101, 32, 116, 119, 111, 32, 104, 97, 112, 112, 101, 110, 101, 100, 32, 98, 101, 102, 111, 114, 101, 32, 116, 104, 101, 32, 111, 116, 104, 101, 114]⟩ 2).run Ybaf.prog w = .ok [(0, 115, false), (1, 100, false)] w := by kernel_rfl

set_option maxHeartbeats 1000000 in
set_option maxRecDepth 100000 in
theorem same_no (bc bt n ct i : Nat) (v : Int) (w : World) (ht : w.cell? ⟨bc, 5, .none⟩ = some (.slice (some ⟨bt, 0, .none⟩) n ct)) (hi : i < n) (hv : w.cell? ⟨bt, i, .none⟩ = some (.int .i64 v)) (hneg : v < 0) :
    Calls Ybaf.prog 7 #[.pointer (some ⟨bc, 0, .none⟩), .int .i64 i] w fun e w' => e = .returned (.tuple #[.string ⟨#[]⟩, .bool false]) ∧ w' = w := by
  have hi' : (i : Int) < (n : Int) := by omega
  go_enter Ybaf.func7, Ybaf.ntmps7
  go_wp2
  go_ret2
  exact ⟨rfl, rfl⟩

set_option maxHeartbeats 2000000 in
set_option maxRecDepth 100000 in
theorem same_yes (F : Interp) (bc bt n ct i : Nat) (v : Nat) (bl bn m cn be ce p : Nat) (l : Int) (s : ByteArray) (w : World) (hF : F.answers w.tape)
    (ht : w.cell? ⟨bc, 5, .none⟩ = some (.slice (some ⟨bt, 0, .none⟩) n ct)) (hi : i < n) (hv : w.cell? ⟨bt, i, .none⟩ = some (.int .i64 v)) (hvn : v < n)
    (hlog : w.cell? ⟨bc, 0, .none⟩ = some (.pointer (some ⟨bl, 0, .none⟩))) (hl : w.cell? ⟨bl, 0, .none⟩ = some (.slice (some ⟨bn, 0, .none⟩) m cn)) (hev : w.cell? ⟨bl, 1, .none⟩ = some (.slice (some ⟨be, 0, .none⟩) n ce))
    (hp : p < m) (hs : w.cell? ⟨bn, p, .none⟩ = some (.string s)) (hln : w.cell? ⟨be, v * 3, .none⟩ = some (.int .i64 l)) (hpr : w.cell? ⟨be, v * 3 + 1, .none⟩ = some (.int .i64 p)) (hck : w.cell? ⟨be, v * 3 + 2, .none⟩ = some (.slice .none 0 0)) :
    Calls Ybaf.prog 7 #[.pointer (some ⟨bc, 0, .none⟩), .int .i64 i] w fun e w' => ∃ t : ByteArray, e = .returned (.tuple #[.string t, .bool true]) ∧ Below w.heap.size w w' := by
  have hi' : (i : Int) < (n : Int) := by omega
  have hvn' : (v : Int) < (n : Int) := by omega
  have HF := hide hF
  have hF' := answers_open hF
  have h1 := call13
  have h2 := guard
  have h3 := fmt1
  have h4 := fmt1r
  have h5 := op9
  have h6 := op3
  have clt := World.block_lt_of_cell? w _ ht
  have elt := World.block_lt_of_cell? w _ hln
  clear hF
  go_enter Ybaf.func7, Ybaf.ntmps7
  go_wp2_with fail
  go_region_held3 (fun W => W.cell? ⟨bc, 0, .none⟩ = some (.pointer (some ⟨bl, 0, .none⟩)) ∧ W.cell? ⟨be, v * 3, .none⟩ = some (.int .i64 l))
    (go_keep)
    (first | (go_at_call 14; refine (EventName_any F bl bn m cn be (v * 3) p s _ (by exact HF.out) (by exact hl) hp (by exact hs) (by exact hpr) (by exact hck)).mono ?_; rintro e w1 ⟨t, rfl, hb⟩; have HB := hide hb; have k1 := below_cells hb be (v * 3) elt; have k2 := below_cells hb bc 0 clt; have hF1 := answers_open (show F.answers w1.tape by rw [hb.tape]; exact HF.out); clear hb))
  go_wp2
  go_ret2
  exact ⟨_, rfl, (((below_drewN (Below.refl _ w) 1).trans HB.out).alloc HB.out.size _).drew⟩
end Go.Proofs.YbulkatvaFmt.twin
