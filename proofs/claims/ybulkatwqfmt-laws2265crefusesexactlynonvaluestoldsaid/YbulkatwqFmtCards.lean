/-
  DERIVED. GIVEN WITH THE SEED: THE CARDS: each row of YbulkatwqFmtRows.lean that lists a variable, with what it lists TIED to the program's text (the seventh form; the later family's looks); each row that meets fmt, with fmt's text TOLD by the authors' own Lean function (tested against real Go, not proved from fmt's source: count such statements apart). THE CARD IS WHAT COUNTS. Prove the row's statement (the work); the ties are given (YbulkatwqFmtTie.lean); close each card by the builder's one call (the guide's Derived/Test/ToyasCard.lean, 'card_holds'). Laid BY PROGRAM, IN A SANDBOX (cutbox-door.mjs). By AI agents, Wed Nov 11 2026. No macro, syntax, notation, axiom, sorry.
-/
import Derived.Test.YbulkatwqFmtRows
import GoSem.ClaimSeven
namespace Go.Proofs.YbulkatwqFmt
namespace Rows

/-- THE TOLD AND TIED CARD OF 'cairnstore.LawS2265CRefusesExactlyNonValues'. -/
def lawS2265CRefusesExactlyNonValuesCard : Claim7 := { stood := { row := lawS2265CRefusesExactlyNonValuesRow, standIns := [], harness := (true, "071e64669ccf689b9c14fa638ccd038c7f157517e6014845f182e6741973f7ad"), looks := true }, told := true, laidByText := true, laidKinds := [.data, .data, .data], laidTests := true, laidLooks := .later, goes := false }
def LawS2265CRefusesExactlyNonValuesToldSaid : Prop := Claim7.holds Ybaf.pinned (.plain (OpenSpec.ofChange lawS2265CRefusesExactlyNonValuesSpec)) lawS2265CRefusesExactlyNonValuesCard
/-- ITS FALSE NEIGHBOUR. Refute it at one input. -/
def LawS2265CRefusesExactlyNonValuesToldWrongFalsely : Prop := Claim7.holds Ybaf.pinned (.plain (OpenSpec.ofChange lawS2265CRefusesExactlyNonValuesWrong)) lawS2265CRefusesExactlyNonValuesCard

/-- THE TOLD AND TIED CARD OF 'cairnstore.LawS2265CWrapKeepsVerdict'. -/
def lawS2265CWrapKeepsVerdictCard : Claim7 := { stood := { row := lawS2265CWrapKeepsVerdictRow, standIns := [], harness := (true, "071e64669ccf689b9c14fa638ccd038c7f157517e6014845f182e6741973f7ad"), looks := true }, told := true, laidByText := true, laidKinds := [.data, .data, .data], laidTests := true, laidLooks := .later, goes := false }
def LawS2265CWrapKeepsVerdictToldSaid : Prop := Claim7.holds Ybaf.pinned (.plain (OpenSpec.ofChange lawS2265CWrapKeepsVerdictSpec)) lawS2265CWrapKeepsVerdictCard
/-- ITS FALSE NEIGHBOUR. Refute it at one input. -/
def LawS2265CWrapKeepsVerdictToldWrongFalsely : Prop := Claim7.holds Ybaf.pinned (.plain (OpenSpec.ofChange lawS2265CWrapKeepsVerdictWrong)) lawS2265CWrapKeepsVerdictCard
end Rows
end Go.Proofs.YbulkatwqFmt
