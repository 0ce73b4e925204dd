/-
  No cell of these rows narrows 'for every input' (looked for: loops, veiled, ifaces, maps, wideKeys, modest, calm, conditions, laid).
  DERIVED. THE GIVEN ROWS OF THIS SEAT. 2 by the template 'for every input the law returns true; each argument reads behind the call as it read before'; 0 by the template 'total and deterministic' (their statements: YbulkatwqTotals.lean).
  GIVEN WITH THE SEED: the statements are not yours to turn. If you find one false, say at which input.
  Laid BY PROGRAM, IN A SANDBOX (cutbox-rows.mjs): the forced cells as the released guide's own fill.sh prints them over the translation 419c84db80adc659… (all of the seat's roots in one cut). By AI agents, Wed Nov 11 2026. No macro, syntax, notation, axiom, sorry.
-/
import Derived.Test.YbulkatwqChecked
import GoSem.Claim
import GoSem.ClaimJoined
import GoSem.ClaimMapViews
import Derived.JoinedTies
import Derived.KernelRfl
namespace Go.Proofs.Ybulkatwq
/- THE CELL 'sum', in the pinned program and in every row, IS THE sha256 OF THE DUMP (.gsa) THAT YbulkatwqProg.lean LOADS. Nothing in Lean hashes anything: it is a label: what it is worth is what the hold of that sum in a sandbox is worth. -/
noncomputable def Yba.pinned : Pinned := { name := "ybulkatwq", sum := "419c84db80adc6596baef45384836dc39e8a9d016d4c7e4473ee428a685c0aa1", checked := Yba.checked }
namespace Rows
def none {H : Type} : Left H := { results := [], args := [] }

/-- 'cairnstore.LawS2265BPeekAt': WHATEVER THE INPUT: true; the input reads as it did. -/
def lawS2265BPeekAtSpec : ChangeSpec := { name := "lawS2265BPeekAt", fn := fun _ => fun
  | [d1, d2] => { results := [.lit (.bool true)], args := [d1, d2] }
  | _ => none }
def lawS2265BPeekAtRow : OpenClaim := { program := "ybulkatwq", sum := "419c84db80adc6596baef45384836dc39e8a9d016d4c7e4473ee428a685c0aa1", func := "example.com/cairnstore/cairnstore.LawS2265BPeekAt", spec := "lawS2265BPeekAt", apart := false }
def LawS2265BPeekAtSaid : Prop := lawS2265BPeekAtRow.holds Yba.pinned (OpenSpec.ofChange lawS2265BPeekAtSpec)

/-- ITS FALSE NEIGHBOUR: 'it returns false'. Refute it at one input. -/
def lawS2265BPeekAtWrong : ChangeSpec := { name := "lawS2265BPeekAt", fn := fun _ => fun
  | [d1, d2] => { results := [.lit (.bool false)], args := [d1, d2] }
  | _ => none }
def LawS2265BPeekAtWrongFalsely : Prop := lawS2265BPeekAtRow.holds Yba.pinned (OpenSpec.ofChange lawS2265BPeekAtWrong)

/-- 'cairnstore.LawS2265BWalk': WHATEVER THE INPUT: true; the input reads as it did. -/
def lawS2265BWalkSpec : ChangeSpec := { name := "lawS2265BWalk", fn := fun _ => fun
  | [d] => { results := [.lit (.bool true)], args := [d] }
  | _ => none }
def lawS2265BWalkRow : OpenClaim := { program := "ybulkatwq", sum := "419c84db80adc6596baef45384836dc39e8a9d016d4c7e4473ee428a685c0aa1", func := "example.com/cairnstore/cairnstore.LawS2265BWalk", spec := "lawS2265BWalk", apart := false }
def LawS2265BWalkSaid : Prop := lawS2265BWalkRow.holds Yba.pinned (OpenSpec.ofChange lawS2265BWalkSpec)

/-- ITS FALSE NEIGHBOUR: 'it returns false'. Refute it at one input. -/
def lawS2265BWalkWrong : ChangeSpec := { name := "lawS2265BWalk", fn := fun _ => fun
  | [d] => { results := [.lit (.bool false)], args := [d] }
  | _ => none }
def LawS2265BWalkWrongFalsely : Prop := lawS2265BWalkRow.holds Yba.pinned (OpenSpec.ofChange lawS2265BWalkWrong)

end Rows
end Go.Proofs.Ybulkatwq
