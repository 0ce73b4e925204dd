/-
  DERIVED. GIVEN WITH THE SEED: THE CARDS: each row of YbulkatvaFmtRows.lean that lists a variable, with what it lists TIED to the program's text (the seventh form; the later family's looks); each row that meets fmt, with fmt's text TOLD by the authors' own Lean function (tested against real Go, not proved from fmt's source: count such statements apart). THE CARD IS WHAT COUNTS. Prove the row's statement (the work); the ties are given (YbulkatvaFmtTie.lean); close each card by the builder's one call (the guide's Derived/Test/ToyasCard.lean, 'card_holds'). Laid BY PROGRAM, IN A SANDBOX (cutbox-door.mjs). By AI agents, Wed Nov 11 2026. No macro, syntax, notation, axiom, sorry.
-/
import Derived.Test.YbulkatvaFmtRows
import GoSem.ClaimSeven
namespace Go.Proofs.YbulkatvaFmt
namespace Rows

/-- THE TOLD CARD OF 'vclog.LawS2262ATwinFlag'. -/
def lawS2262ATwinFlagCard : Claim7 := { stood := { row := lawS2262ATwinFlagRow, standIns := [], harness := (true, "5a03ef79a38091c887d2b254d7b69251a555aeed17097ef1d7fe75ad54b5a584"), looks := true }, told := true, goes := false }
def LawS2262ATwinFlagToldSaid : Prop := Claim7.holds Ybaf.pinned (.plain (OpenSpec.ofChange lawS2262ATwinFlagSpec)) lawS2262ATwinFlagCard
/-- ITS FALSE NEIGHBOUR. Refute it at one input. -/
def LawS2262ATwinFlagToldWrongFalsely : Prop := Claim7.holds Ybaf.pinned (.plain (OpenSpec.ofChange lawS2262ATwinFlagWrong)) lawS2262ATwinFlagCard

/-- THE TOLD AND TIED CARD OF 'precedes.LawS2262BExact'. -/
def lawS2262BExactCard : Claim7 := { stood := { row := lawS2262BExactRow, standIns := [], harness := (true, "5a03ef79a38091c887d2b254d7b69251a555aeed17097ef1d7fe75ad54b5a584"), looks := true }, told := true, laidByText := true, laidKinds := [.data, .data, .data, .data, .listed, .pinned], laidTests := true, laidLooks := .later, goes := false }
def LawS2262BExactToldSaid : Prop := Claim7.holds Ybaf.pinned (.plain (OpenSpec.ofChange lawS2262BExactSpec)) lawS2262BExactCard
/-- ITS FALSE NEIGHBOUR. Refute it at one input. -/
def LawS2262BExactToldWrongFalsely : Prop := Claim7.holds Ybaf.pinned (.plain (OpenSpec.ofChange lawS2262BExactWrong)) lawS2262BExactCard

/-- THE TOLD AND TIED CARD OF 'precedes.LawS2262BRoundTrip'. -/
def lawS2262BRoundTripCard : Claim7 := { stood := { row := lawS2262BRoundTripRow, standIns := [], harness := (true, "5a03ef79a38091c887d2b254d7b69251a555aeed17097ef1d7fe75ad54b5a584"), looks := true }, told := true, laidByText := true, laidKinds := [.data, .data, .data, .data, .sentinel, .sentinel, .listed, .pinned], laidTests := true, laidLooks := .later, goes := false }
def LawS2262BRoundTripToldSaid : Prop := Claim7.holds Ybaf.pinned (.plain (OpenSpec.ofChange lawS2262BRoundTripSpec)) lawS2262BRoundTripCard
/-- ITS FALSE NEIGHBOUR. Refute it at one input. -/
def LawS2262BRoundTripToldWrongFalsely : Prop := Claim7.holds Ybaf.pinned (.plain (OpenSpec.ofChange lawS2262BRoundTripWrong)) lawS2262BRoundTripCard
end Rows
end Go.Proofs.YbulkatvaFmt
