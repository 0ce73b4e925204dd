/-
  DERIVED. GIVEN WITH THE SEED: THE PROGRAM's TIES (one call each: nine closed facts by the kernel) AND EACH ROW's TIE, after the 31st guide's Derived/Test/Toyas{Tie, Card}.lean. No idea stands in it: it is a product of the set-up. Laid BY PROGRAM, IN A SANDBOX (cutbox-door.mjs). By AI agents, Wed Nov 11 2026. No macro, syntax, notation, axiom, sorry.
-/
import Derived.Test.YbulkatxsFmtRows
import Derived.LaidByTextLater
import Derived.SevenTiedAt
import Derived.LaidSub
import Derived.LaidOnce
namespace Go.Proofs.YbulkatxsFmt
open Go
set_option maxRecDepth 100000
theorem seatTie1 : Ybaf.prog.laidByTextLater [("example.com/kenmore/kenmore.ErrUndefinedAlias", Rows.laid_example_com_kenmore_kenmore_ErrUndefinedAlias), ("example.com/kenmore/kenmore.ErrAliasCycle", Rows.laid_example_com_kenmore_kenmore_ErrAliasCycle), ("example.com/kenmore/kenmore.ErrUnusedAlias", Rows.laid_example_com_kenmore_kenmore_ErrUnusedAlias)] [.called, .called, .called] true :=
  Program.laidByTextLater_by_one 66 8 2 (by kernel_rfl) (by kernel_rfl) (by kernel_rfl) (by kernel_rfl) (by kernel_rfl) (by kernel_rfl) (fun _ _ => by kernel_rfl)
theorem noOwnUnsafe : Ybaf.pinned.checked.prog.headLifts.contains "ownunsafe" = false := by kernel_rfl
theorem tie : Ybaf.prog.laidByTextLater [("example.com/kenmore/kenmore.ErrUndefinedAlias", Rows.laid_example_com_kenmore_kenmore_ErrUndefinedAlias), ("example.com/kenmore/kenmore.ErrAliasCycle", Rows.laid_example_com_kenmore_kenmore_ErrAliasCycle), ("example.com/kenmore/kenmore.ErrUnusedAlias", Rows.laid_example_com_kenmore_kenmore_ErrUnusedAlias)] [.called, .called, .called] true :=
  Program.laidByTextLater.sub seatTie1 ["example.com/kenmore/kenmore.ErrUndefinedAlias", "example.com/kenmore/kenmore.ErrAliasCycle", "example.com/kenmore/kenmore.ErrUnusedAlias"] (by kernel_rfl) (by kernel_rfl)
theorem lawS2267BCounts_row_tie : Rows.lawS2267BCountsRow.laidByTextAt .later Ybaf.pinned [.called, .called, .called] true :=
  OpenClaim.laidByTextAt_later rfl rfl tie noOwnUnsafe
end Go.Proofs.YbulkatxsFmt
