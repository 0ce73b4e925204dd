/-
  No cell of these rows narrows 'for every input' (looked for: loops, veiled, ifaces, maps, wideKeys, modest, calm, conditions, laid).
  DERIVED. THE GIVEN ROWS OF THIS SEAT. 3 by the template 'for every input the law returns true; each argument reads behind the call as it read before'; 0 by the template 'total and deterministic' (their statements: YbulkattkTotals.lean).
  GIVEN WITH THE SEED: the statements are not yours to turn. If you find one false, say at which input.
  Laid BY PROGRAM, IN A SANDBOX (cutbox-rows.mjs): the forced cells as the released guide's own fill.sh prints them over the translation 985e4f30750505a5… (all of the seat's roots in one cut). By AI agents, Wed Nov 11 2026. No macro, syntax, notation, axiom, sorry.
-/
import Derived.Test.YbulkattkChecked
import GoSem.Claim
import GoSem.ClaimJoined
import GoSem.ClaimMapViews
import Derived.JoinedTies
import Derived.KernelRfl
namespace Go.Proofs.Ybulkattk
/- THE CELL 'sum', in the pinned program and in every row, IS THE sha256 OF THE DUMP (.gsa) THAT YbulkattkProg.lean LOADS. Nothing in Lean hashes anything: it is a label: what it is worth is what the hold of that sum in a sandbox is worth. -/
noncomputable def Yba.pinned : Pinned := { name := "ybulkattk", sum := "985e4f30750505a5debb8936756e016599d1ffcc54d443a3566e89546b61ff75", checked := Yba.checked }
namespace Rows
def none {H : Type} : Left H := { results := [], args := [] }

/-- 'steer.LawS2259AExact': WHATEVER THE INPUT: true; the input reads as it did. -/
def lawS2259AExactSpec : ChangeSpec := { name := "lawS2259AExact", fn := fun _ => fun
  | [d1, d2, d3, d4, d5, d6, d7, d8, d9, d10, d11] => { results := [.lit (.bool true)], args := [d1, d2, d3, d4, d5, d6, d7, d8, d9, d10, d11] }
  | _ => none }
def lawS2259AExactRow : OpenClaim := { program := "ybulkattk", sum := "985e4f30750505a5debb8936756e016599d1ffcc54d443a3566e89546b61ff75", func := "example.com/roamvane/roamvane/internal/steer.LawS2259AExact", spec := "lawS2259AExact", apart := false }
def LawS2259AExactSaid : Prop := lawS2259AExactRow.holds Yba.pinned (OpenSpec.ofChange lawS2259AExactSpec)

/-- ITS FALSE NEIGHBOUR: 'it returns false'. Refute it at one input. -/
def lawS2259AExactWrong : ChangeSpec := { name := "lawS2259AExact", fn := fun _ => fun
  | [d1, d2, d3, d4, d5, d6, d7, d8, d9, d10, d11] => { results := [.lit (.bool false)], args := [d1, d2, d3, d4, d5, d6, d7, d8, d9, d10, d11] }
  | _ => none }
def LawS2259AExactWrongFalsely : Prop := lawS2259AExactRow.holds Yba.pinned (OpenSpec.ofChange lawS2259AExactWrong)

/-- 'card.LawS2259CSetsStatus': WHATEVER THE INPUT: true; the input reads as it did. -/
def lawS2259CSetsStatusSpec : ChangeSpec := { name := "lawS2259CSetsStatus", fn := fun _ => fun
  | [d1, d2, d3, d4, d5, d6, d7, d8, d9] => { results := [.lit (.bool true)], args := [d1, d2, d3, d4, d5, d6, d7, d8, d9] }
  | _ => none }
def lawS2259CSetsStatusRow : OpenClaim := { program := "ybulkattk", sum := "985e4f30750505a5debb8936756e016599d1ffcc54d443a3566e89546b61ff75", func := "example.com/roamvane/roamvane/internal/card.LawS2259CSetsStatus", spec := "lawS2259CSetsStatus", apart := false }
def LawS2259CSetsStatusSaid : Prop := lawS2259CSetsStatusRow.holds Yba.pinned (OpenSpec.ofChange lawS2259CSetsStatusSpec)

/-- ITS FALSE NEIGHBOUR: 'it returns false'. Refute it at one input. -/
def lawS2259CSetsStatusWrong : ChangeSpec := { name := "lawS2259CSetsStatus", fn := fun _ => fun
  | [d1, d2, d3, d4, d5, d6, d7, d8, d9] => { results := [.lit (.bool false)], args := [d1, d2, d3, d4, d5, d6, d7, d8, d9] }
  | _ => none }
def LawS2259CSetsStatusWrongFalsely : Prop := lawS2259CSetsStatusRow.holds Yba.pinned (OpenSpec.ofChange lawS2259CSetsStatusWrong)

/-- 'card.LawS2259CIdempotent': WHATEVER THE INPUT: true; the input reads as it did. -/
def lawS2259CIdempotentSpec : ChangeSpec := { name := "lawS2259CIdempotent", fn := fun _ => fun
  | [d1, d2, d3, d4, d5] => { results := [.lit (.bool true)], args := [d1, d2, d3, d4, d5] }
  | _ => none }
def lawS2259CIdempotentRow : OpenClaim := { program := "ybulkattk", sum := "985e4f30750505a5debb8936756e016599d1ffcc54d443a3566e89546b61ff75", func := "example.com/roamvane/roamvane/internal/card.LawS2259CIdempotent", spec := "lawS2259CIdempotent", apart := false }
def LawS2259CIdempotentSaid : Prop := lawS2259CIdempotentRow.holds Yba.pinned (OpenSpec.ofChange lawS2259CIdempotentSpec)

/-- ITS FALSE NEIGHBOUR: 'it returns false'. Refute it at one input. -/
def lawS2259CIdempotentWrong : ChangeSpec := { name := "lawS2259CIdempotent", fn := fun _ => fun
  | [d1, d2, d3, d4, d5] => { results := [.lit (.bool false)], args := [d1, d2, d3, d4, d5] }
  | _ => none }
def LawS2259CIdempotentWrongFalsely : Prop := lawS2259CIdempotentRow.holds Yba.pinned (OpenSpec.ofChange lawS2259CIdempotentWrong)

end Rows
end Go.Proofs.Ybulkattk
