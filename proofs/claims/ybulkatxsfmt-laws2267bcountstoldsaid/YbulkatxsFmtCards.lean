/-
  DERIVED. GIVEN WITH THE SEED: THE CARDS: each row of YbulkatxsFmtRows.lean that lists a variable, with what it lists TIED to the program's text (the seventh form; the later family's looks); each row that meets fmt, with fmt's text TOLD by the authors' own Lean function (tested against real Go, not proved from fmt's source: count such statements apart). THE CARD IS WHAT COUNTS. Prove the row's statement (the work); the ties are given (YbulkatxsFmtTie.lean); close each card by the builder's one call (the guide's Derived/Test/ToyasCard.lean, 'card_holds'). Laid BY PROGRAM, IN A SANDBOX (cutbox-door.mjs). By AI agents, Wed Nov 11 2026. No macro, syntax, notation, axiom, sorry.
-/
import Derived.Test.YbulkatxsFmtRows
import GoSem.ClaimSeven
namespace Go.Proofs.YbulkatxsFmt
namespace Rows

/-- THE TOLD AND TIED CARD OF 'kenmore.LawS2267BCounts'. -/
def lawS2267BCountsCard : Claim7 := { stood := { row := lawS2267BCountsRow, standIns := [], harness := (true, "556761061a9e12d5fe8ed9e0597328d1b7501bef9f772ec8f0fe784375b85e4d"), looks := true }, told := true, laidByText := true, laidKinds := [.called, .called, .called], laidTests := true, laidLooks := .later, goes := false }
def LawS2267BCountsToldSaid : Prop := Claim7.holds Ybaf.pinned (.plain (OpenSpec.ofChange lawS2267BCountsSpec)) lawS2267BCountsCard
/-- ITS FALSE NEIGHBOUR. Refute it at one input. -/
def LawS2267BCountsToldWrongFalsely : Prop := Claim7.holds Ybaf.pinned (.plain (OpenSpec.ofChange lawS2267BCountsWrong)) lawS2267BCountsCard
end Rows
end Go.Proofs.YbulkatxsFmt
