/-
  Of LawS2267BCounts: what a call keeps; closed facts on fmt's stops.
-/
import Derived.Test.YbulkatxsFmtRows
import Derived.WalkKit
import Derived.WalkSpells
import Derived.ProofKit
import Derived.OwnWalk
import Derived.WalkSmall
import Derived.Laws.MakeOwn
import Derived.Laws.OwnMore
import Derived.Maps.AppendAt
import Derived.Stop.CallBack
import Derived.Stop.IfaceNil
import Derived.Stop.JoinedTold
import Derived.Stop.Texts
import Derived.Outline
namespace Go.Proofs.YbulkatxsFmt.cnt
open Go.ChangeShapes Go.WideShapes Go.ChangeAt Go.RowKit Go
open Go.Extern.Stop Go.Stop Go.Extern
theorem hide {p : Prop} (h : p) : Hid p := h

/-- Of what lay in w, all but the blocks of S lies as it lay. -/
structure Keep (S : Nat → Prop) (w w' : World) : Prop where
  os : w'.os = w.os
  tape : w'.tape = w.tape
  output : w'.output = w.output
  size : w.heap.size ≤ w'.heap.size
  block : ∀ k, k < w.heap.size → ¬ S k → w'.heap[k]? = w.heap[k]?

def No (_ : Nat) : Prop := False

theorem Keep.refl (S : Nat → Prop) (w : World) : Keep S w w := ⟨rfl, rfl, rfl, Nat.le_refl _, fun _ _ _ => rfl⟩
theorem Keep.trans {S : Nat → Prop} {a b c : World} (h : Keep S a b) (k : Keep S b c) : Keep S a c :=
  ⟨k.os.trans h.os, k.tape.trans h.tape, k.output.trans h.output, Nat.le_trans h.size k.size, fun i hi hn => (k.block i (Nat.lt_of_lt_of_le hi h.size) hn).trans (h.block i hi hn)⟩
theorem Keep.mono {S T : Nat → Prop} {a b : World} (h : Keep S a b) (hS : ∀ k, k < a.heap.size → S k → T k) : Keep T a b :=
  ⟨h.os, h.tape, h.output, h.size, fun i hi hn => h.block i hi fun hs => hn (hS i hi hs)⟩
/-- What lay not yet in a is nothing to it. -/
theorem Keep.then {S T : Nat → Prop} {a b c : World} (h : Keep S a b) (k : Keep T b c) (hT : ∀ i, i < a.heap.size → T i → S i) : Keep S a c :=
  ⟨k.os.trans h.os, k.tape.trans h.tape, k.output.trans h.output, Nat.le_trans h.size k.size, fun i hi hn => (k.block i (Nat.lt_of_lt_of_le hi h.size) fun hs => hn (hT i hi hs)).trans (h.block i hi hn)⟩
theorem Keep.of_below {S : Nat → Prop} {a b : World} (h : Below a.heap.size a b) : Keep S a b := ⟨h.os, h.tape, h.output, h.size, fun i hi _ => h.block i hi⟩
theorem Keep.below {S : Nat → Prop} {B : Nat} {a b : World} (h : Keep S a b) (hB : B ≤ a.heap.size) (hS : ∀ k, S k → B ≤ k) : Below B a b :=
  ⟨h.os, h.tape, h.output, h.size, fun i hi => h.block i (by omega) fun hs => by have := hS i hs; omega⟩
theorem Keep.cell {S : Nat → Prop} {w w' : World} (h : Keep S w w') {p : Addr} (hp : p.block < w.heap.size) (hn : ¬ S p.block) : w'.cell? p = w.cell? p := World.cell?_of_block (w := w) (h.block p.block hp hn)
theorem Keep.frozen {S : Nat → Prop} {w w' : World} (h : Keep S w w') {p : Addr} (hp : p.block < w.heap.size) (hn : ¬ S p.block) : w'.frozen? p = w.frozen? p := World.frozen?_of_block (w := w) (h.block p.block hp hn)
theorem Keep.alloc {S : Nat → Prop} {a w : World} (h : Keep S a w) (o : Obj) : Keep S a (w.alloc o) :=
  h.then ((Keep.of_below ((Below.refl _ w).alloc (Nat.le_refl _) o) : Keep S w _)) fun _ _ hs => hs
theorem Keep.drew {S : Nat → Prop} {a w : World} (h : Keep S a w) : Keep S a w.drew := ⟨h.os, h.tape, h.output, h.size, h.block⟩
theorem Keep.setCell {S : Nat → Prop} {a w : World} (h : Keep S a w) {p : Addr} (hp : p.block < a.heap.size → S p.block) (u : Value) : Keep S a (w.setCell p u) :=
  ⟨h.os, h.tape, h.output, by simpa using h.size, fun i hi hn => (Below.heap_setCell w p u i fun e => hn (e ▸ hp (e ▸ hi))).trans (h.block i hi hn)⟩

/-! ### closed facts -/
theorem call20 (args : Array Value) (w : World) : (callFunc 20 args).run Ybaf.prog w = (FmtCalls.errorf #[9, 102] #[48] args).run Ybaf.prog w :=
  run_callFunc_next Ybaf.func20 (by kernel_rfl) (by kernel_rfl) (by kernel_rfl) args w
theorem call30 (args : Array Value) (w : World) : (callFunc 30 args).run Ybaf.prog w = (FmtCalls.sprintf #[9, 102] #[9] args).run Ybaf.prog w :=
  run_callFunc_next Ybaf.func30 (by kernel_rfl) (by kernel_rfl) (by kernel_rfl) args w
theorem guard (name : String) (w : World) : (FmtStop.guard name).run Ybaf.prog w = .ok () w := by kernel_rfl
theorem nextTurns : Extern.next FmtCalls.turnsRow = some (FmtCalls.begun #[] #[]) := by kernel_rfl
theorem nextReturned : Extern.next FmtCalls.returnedRow = some (FmtCalls.returned #[] #[]) := by kernel_rfl
theorem fmtA : FmtStop.printed? ⟨#[37, 119, 58, 32, 37, 118]⟩ 2 = some [(0, 119, false), (1, 118, false)] := by kernel_rfl
theorem fmtAr (w : World) : (FmtDoors.printed ⟨#[37, 119, 58, 32, 37, 118]⟩ 2).run Ybaf.prog w = .ok [(0, 119, false), (1, 118, false)] w := by kernel_rfl
theorem fmtB : FmtStop.printed? ⟨#[37, 119, 58, 32, 37, 118, 32, 105, 110, 99, 108, 117, 100, 101, 115, 32, 105, 116, 115, 101, 108, 102]⟩ 2 = some [(0, 119, false), (1, 118, false)] := by kernel_rfl
theorem fmtBr (w : World) : (FmtDoors.printed ⟨#[37, 119, 58, 32, 37, 118, 32, 105, 110, 99, 108, 117, 100, 101, 115, 32, 105, 116, 115, 101, 108, 102]⟩ 2).run Ybaf.prog w = .ok [(0, 119, false), (1, 118, false)] w := by kernel_rfl
theorem fmtC : FmtStop.printed? ⟨#[37, 119, 32, 116, 104, 114, 111, 117, 103, 104, 32, 37, 113]⟩ 2 = some [(0, 119, false), (1, 113, false)] := by kernel_rfl
theorem fmtCr (w : World) : (FmtDoors.printed ⟨#[37, 119, 32, 116, 104, 114, 111, 117, 103, 104, 32, 37, 113]⟩ 2).run Ybaf.prog w = .ok [(0, 119, false), (1, 113, false)] w := by kernel_rfl
theorem fmtD : FmtStop.printed? ⟨#[37, 118, 32, 37, 113]⟩ 2 = some [(0, 118, false), (1, 113, false)] := by kernel_rfl
theorem fmtDr (w : World) : (FmtDoors.printed ⟨#[37, 118, 32, 37, 113]⟩ 2).run Ybaf.prog w = .ok [(0, 118, false), (1, 113, false)] w := by kernel_rfl
theorem act119 (name : String) (x : Value) (w : World) : (FmtCalls.act name true 119 false (.iface 119 x)).run Ybaf.prog w = .ok (.closed true) w := by kernel_rfl
theorem act104 (name : String) (x : Value) (w : World) : (FmtCalls.act name true 119 false (.iface 104 x)).run Ybaf.prog w = .ok (.closed true) w := by kernel_rfl
theorem act33 (name : String) (x : Value) (w : World) : (FmtCalls.act name true 118 false (.iface 33 x)).run Ybaf.prog w = .ok (.call false) w := by kernel_rfl
theorem act31 (name : String) (x : Value) (w : World) : (FmtCalls.act name false 118 false (.iface 31 x)).run Ybaf.prog w = .ok (.call false) w := by kernel_rfl
theorem act9 (name : String) (x : Value) (w : World) : (FmtCalls.act name false 113 false (.iface 9 x)).run Ybaf.prog w = .ok (.closed false) w := by kernel_rfl
theorem act9w (name : String) (x : Value) (w : World) : (FmtCalls.act name true 113 false (.iface 9 x)).run Ybaf.prog w = .ok (.closed true) w := by kernel_rfl
def shape9 : List UInt8 := [12, 6, 0, 0, 0, 0, 0, 0, 0, 115, 116, 114, 105, 110, 103]
theorem op9 (name : String) (x : ByteArray) (w : World) : (FmtStop.operand name false 113 false (.iface 9 (.string x))).run Ybaf.prog w = .ok (shape9, FmtStop.pack x.data.toList) w := by kernel_rfl
theorem op9w (name : String) (x : ByteArray) (w : World) : (FmtStop.operand name true 113 false (.iface 9 (.string x))).run Ybaf.prog w = .ok (shape9, FmtStop.pack x.data.toList) w := by kernel_rfl
def plain119 : List UInt8 := 14 :: FmtStop.pack "*errors.errorString".toUTF8.data.toList
def plain104 : List UInt8 := 14 :: FmtStop.pack "*fmt.wrapError".toUTF8.data.toList
theorem inv33 (x : Value) (w : World) : (invoke (.fn (.method "String") #[]) #[.iface 33 x]).run Ybaf.prog w = .ok (.enter 22 #[x]) w := by kernel_rfl
theorem inv31 (x : Value) (w : World) : (invoke (.fn (.method "String") #[]) #[.iface 31 x]).run Ybaf.prog w = .ok (.enter 31 #[x]) w := by kernel_rfl
theorem ptr104 (w : World) : (FmtStop.ptrTo "fmt.wrapError").run Ybaf.prog w = .ok 104 w := by kernel_rfl
theorem elem104 (w : World) : (elemOf 104).run Ybaf.prog w = .ok 158 w := by kernel_rfl
theorem err104 (w : World) : (FmtDoors.textMethod 104 "Error").run Ybaf.prog w = .ok true w := by kernel_rfl
theorem err119 (w : World) : (FmtDoors.textMethod 119 "Error").run Ybaf.prog w = .ok true w := by kernel_rfl
theorem str33 (w : World) : (typeStr 33).run Ybaf.prog w = .ok "kenmore.aliasKey" w := by kernel_rfl
theorem str31 (w : World) : (typeStr 31).run Ybaf.prog w = .ok "kenmore.aliasKind" w := by kernel_rfl
end Go.Proofs.YbulkatxsFmt.cnt
