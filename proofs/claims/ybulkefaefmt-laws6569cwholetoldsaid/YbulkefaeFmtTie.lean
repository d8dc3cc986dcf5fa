/-
  DERIVED. GIVEN WITH THE SEED: THE PROGRAM's TIES (one call each: nine closed facts by the kernel) AND EACH ROW's TIE, after the 31st guide's Derived/Test/Toyas{Tie, Card}.lean. No idea stands in it: it is a product of the set-up. Laid BY PROGRAM, IN A SANDBOX (cutbox-door.mjs). By AI agents, Wed Nov 11 2026. No macro, syntax, notation, axiom, sorry.
-/
import Derived.Test.YbulkefaeFmtRows
import Derived.LaidByTextLater
import Derived.SevenTiedAt
import Derived.LaidSub
import Derived.LaidOnce
namespace Go.Proofs.YbulkefaeFmt
open Go
set_option maxRecDepth 100000
theorem seatTie1 : Ybaf.prog.laidByTextLater [("unicode.White_Space", Rows.laid_unicode_White_Space), ("example.com/causeway/causeway/internal/wire.ErrCutShort", Rows.laid_example_com_causeway_causeway_internal_wire_ErrCutShort), ("example.com/causeway/causeway/internal/wire.errTooLarge", Rows.laid_example_com_causeway_causeway_internal_wire_errTooLarge)] [.listed, .sentinel, .sentinel] true :=
  Program.laidByTextLater_by_one 66 8 22 (by kernel_rfl) (by kernel_rfl) (by kernel_rfl) (by kernel_rfl) (by kernel_rfl) (by kernel_rfl) (fun _ _ => by kernel_rfl)
theorem noOwnUnsafe : Ybaf.pinned.checked.prog.headLifts.contains "ownunsafe" = false := by kernel_rfl
theorem tie : Ybaf.prog.laidByTextLater [("unicode.White_Space", Rows.laid_unicode_White_Space), ("example.com/causeway/causeway/internal/wire.ErrCutShort", Rows.laid_example_com_causeway_causeway_internal_wire_ErrCutShort), ("example.com/causeway/causeway/internal/wire.errTooLarge", Rows.laid_example_com_causeway_causeway_internal_wire_errTooLarge)] [.listed, .sentinel, .sentinel] true :=
  Program.laidByTextLater.sub seatTie1 ["unicode.White_Space", "example.com/causeway/causeway/internal/wire.ErrCutShort", "example.com/causeway/causeway/internal/wire.errTooLarge"] (by kernel_rfl) (by kernel_rfl)
theorem lawS6569CWhole_row_tie : Rows.lawS6569CWholeRow.laidByTextAt .later Ybaf.pinned [.listed, .sentinel, .sentinel] true :=
  OpenClaim.laidByTextAt_later rfl rfl tie noOwnUnsafe
end Go.Proofs.YbulkefaeFmt
