/-
  DERIVED. GIVEN WITH THE SEED: THE PROGRAM's TIES (one call each: nine closed facts by the kernel) AND EACH ROW's TIE, after the 31st guide's Derived/Test/Toyas{Tie, Card}.lean. No idea stands in it: it is a product of the set-up. Laid BY PROGRAM, IN A SANDBOX (cutbox-door.mjs). By AI agents, Wed Nov 11 2026. No macro, syntax, notation, axiom, sorry.
-/
import Derived.Test.YbulkaypkFmtRows
import Derived.LaidByTextLater
import Derived.SevenTiedAt
import Derived.LaidSub
import Derived.LaidOnce
namespace Go.Proofs.YbulkaypkFmt
open Go
set_option maxRecDepth 100000
theorem seatTie1 : Ybaf.prog.laidByTextLater [("example.com/driftline/driftline.ErrClockExhausted", Rows.laid_example_com_driftline_driftline_ErrClockExhausted), ("example.com/driftline/driftline.ErrClosed", Rows.laid_example_com_driftline_driftline_ErrClosed), ("example.com/driftline/driftline.ErrInvalidTimestamp", Rows.laid_example_com_driftline_driftline_ErrInvalidTimestamp)] [.sentinel, .sentinel, .sentinel] true :=
  Program.laidByTextLater_by_one 66 8 2 (by kernel_rfl) (by kernel_rfl) (by kernel_rfl) (by kernel_rfl) (by kernel_rfl) (by kernel_rfl) (fun _ _ => by kernel_rfl)
theorem noOwnUnsafe : Ybaf.pinned.checked.prog.headLifts.contains "ownunsafe" = false := by kernel_rfl
theorem tie : Ybaf.prog.laidByTextLater [("example.com/driftline/driftline.ErrInvalidTimestamp", Rows.laid_example_com_driftline_driftline_ErrInvalidTimestamp)] [.sentinel] true :=
  Program.laidByTextLater.sub seatTie1 ["example.com/driftline/driftline.ErrInvalidTimestamp"] (by kernel_rfl) (by kernel_rfl)
theorem lawS2493BText_row_tie : Rows.lawS2493BTextRow.laidByTextAt .later Ybaf.pinned [.sentinel] true :=
  OpenClaim.laidByTextAt_later rfl rfl tie noOwnUnsafe
theorem lawS2493BCeil_row_tie : Rows.lawS2493BCeilRow.laidByTextAt .later Ybaf.pinned [.sentinel] true :=
  OpenClaim.laidByTextAt_later rfl rfl tie noOwnUnsafe
theorem tie2 : Ybaf.prog.laidByTextLater [("example.com/driftline/driftline.ErrClockExhausted", Rows.laid_example_com_driftline_driftline_ErrClockExhausted), ("example.com/driftline/driftline.ErrClosed", Rows.laid_example_com_driftline_driftline_ErrClosed)] [.sentinel, .sentinel] true :=
  Program.laidByTextLater.sub seatTie1 ["example.com/driftline/driftline.ErrClockExhausted", "example.com/driftline/driftline.ErrClosed"] (by kernel_rfl) (by kernel_rfl)
theorem lawS2493CKind_row_tie : Rows.lawS2493CKindRow.laidByTextAt .later Ybaf.pinned [.sentinel, .sentinel] true :=
  OpenClaim.laidByTextAt_later rfl rfl tie2 noOwnUnsafe
end Go.Proofs.YbulkaypkFmt
