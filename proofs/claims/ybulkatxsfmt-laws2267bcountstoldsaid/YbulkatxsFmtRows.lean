/-
  NARROWER THAN 'FOR EVERY INPUT', by the rows' own cells (each row's printed sentence says how): LawS2267BCounts: ifaces, laid.
  DERIVED. THE GIVEN ROWS OF THIS SEAT. 1 by the template 'for every input the law returns true; each argument reads behind the call as it read before'; 0 by the template 'total and deterministic' (their statements: YbulkatxsFmtTotals.lean).
  GIVEN WITH THE SEED: the statements are not yours to turn. If you find one false, say at which input.
  Laid BY PROGRAM, IN A SANDBOX (cutbox-rows.mjs): the forced cells as the released guide's own fill.sh prints them over the translation d0c6fe34e775248c… (all of the seat's roots in one cut). By AI agents, Wed Nov 11 2026. No macro, syntax, notation, axiom, sorry.
-/
import Derived.Test.YbulkatxsFmtChecked
import GoSem.Claim
import GoSem.ClaimJoined
import GoSem.ClaimMapViews
import Derived.JoinedTies
import Derived.KernelRfl
namespace Go.Proofs.YbulkatxsFmt
/- THE CELL 'sum', in the pinned program and in every row, IS THE sha256 OF THE DUMP (.gsa) THAT YbulkatxsFmtProg.lean LOADS. Nothing in Lean hashes anything: it is a label: what it is worth is what the hold of that sum in a sandbox is worth. -/
noncomputable def Ybaf.pinned : Pinned := { name := "ybulkatxsfmt", sum := "d0c6fe34e775248c1f9da3d22375752c957197c9cf2da6b867ff7c69ccc45059", checked := Ybaf.checked }
namespace Rows
def none {H : Type} : Left H := { results := [], args := [] }

/- WHAT THE LISTED PACKAGE-LEVEL VARIABLES READ AS WHEN THE CALL BEGINS. Each datum BY PROGRAM (the guide's laid-datum.mjs) off the statement by which the dump's own 'gosem.cut.vars' lays the variable. In a bare row this is a premise. The card (YbulkatxsFmtCards.lean) ties it to the program's text. -/
def laid_example_com_kenmore_kenmore_ErrUndefinedAlias {H : Type} : DataW H := .iface "*errors.errorString" (.ptr (.agg [.lit (.string [97, 108, 105, 97, 115, 32, 117, 115, 101, 100, 32, 98, 117, 116, 32, 110, 111, 116, 32, 100, 101, 102, 105, 110, 101, 100])]))
def laid_example_com_kenmore_kenmore_ErrAliasCycle {H : Type} : DataW H := .iface "*errors.errorString" (.ptr (.agg [.lit (.string [97, 108, 105, 97, 115, 32, 99, 121, 99, 108, 101])]))
def laid_example_com_kenmore_kenmore_ErrUnusedAlias {H : Type} : DataW H := .iface "*errors.errorString" (.ptr (.agg [.lit (.string [97, 108, 105, 97, 115, 32, 100, 101, 102, 105, 110, 101, 100, 32, 98, 117, 116, 32, 110, 111, 116, 32, 117, 115, 101, 100])]))

/-- 'kenmore.LawS2267BCounts': WHATEVER THE INPUT: true; the input reads as it did. -/
def lawS2267BCountsSpec : ChangeSpec := { name := "lawS2267BCounts", vars := ["example.com/kenmore/kenmore.ErrAliasCycle", "example.com/kenmore/kenmore.ErrUndefinedAlias", "example.com/kenmore/kenmore.ErrUnusedAlias"], fn := fun _ => fun
  | [d1, d2, d3, d4, d5, g1, g2, g3] => { results := [.lit (.bool true)], args := [d1, d2, d3, d4, d5], vars := [g1, g2, g3] }
  | _ => none }
def lawS2267BCountsRow : OpenClaim := { program := "ybulkatxsfmt", sum := "d0c6fe34e775248c1f9da3d22375752c957197c9cf2da6b867ff7c69ccc45059", func := "example.com/kenmore/kenmore.LawS2267BCounts", spec := "lawS2267BCounts", stops := ["fmt.errorf, its operands' methods called", "fmt.Sprintf, its operands' methods called"], inPlace := ["internal/reflectlite.TypeOf", "fmt.errorf"], unfollowed := true, recurses := true, named := ["example.com/kenmore/kenmore.ErrAliasCycle", "example.com/kenmore/kenmore.ErrUndefinedAlias", "example.com/kenmore/kenmore.ErrUnusedAlias"], ifaces := true, plainKeys := false, apart := false, laid := [("example.com/kenmore/kenmore.ErrUndefinedAlias", laid_example_com_kenmore_kenmore_ErrUndefinedAlias), ("example.com/kenmore/kenmore.ErrAliasCycle", laid_example_com_kenmore_kenmore_ErrAliasCycle), ("example.com/kenmore/kenmore.ErrUnusedAlias", laid_example_com_kenmore_kenmore_ErrUnusedAlias)] }
/-- NO THEOREM (fmt's text is open here; it may be false): for the released tool's asking of the row's closed facts alone. THE STATEMENT IS 'LawS2267BCountsToldSaid' (YbulkatxsFmtCards.lean). -/
def LawS2267BCountsFormAsk : Prop := lawS2267BCountsRow.holds Ybaf.pinned (OpenSpec.ofChange lawS2267BCountsSpec)

/-- ITS FALSE NEIGHBOUR: 'it returns false'. Refute it at one input. -/
def lawS2267BCountsWrong : ChangeSpec := { name := "lawS2267BCounts", vars := ["example.com/kenmore/kenmore.ErrAliasCycle", "example.com/kenmore/kenmore.ErrUndefinedAlias", "example.com/kenmore/kenmore.ErrUnusedAlias"], fn := fun _ => fun
  | [d1, d2, d3, d4, d5, g1, g2, g3] => { results := [.lit (.bool false)], args := [d1, d2, d3, d4, d5], vars := [g1, g2, g3] }
  | _ => none }
def LawS2267BCountsWrongFormAsk : Prop := lawS2267BCountsRow.holds Ybaf.pinned (OpenSpec.ofChange lawS2267BCountsWrong)

end Rows
end Go.Proofs.YbulkatxsFmt
