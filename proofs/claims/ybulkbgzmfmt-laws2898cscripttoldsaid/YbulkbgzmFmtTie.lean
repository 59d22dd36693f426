/-
  DERIVED. GIVEN WITH THE SEED: THE PROGRAM's TIES (one call each: nine closed facts by the kernel) AND EACH ROW's TIE, after the 31st guide's Derived/Test/Toyas{Tie, Card}.lean. No idea stands in it: it is a product of the set-up. Laid BY PROGRAM, IN A SANDBOX (cutbox-door.mjs). By AI agents, Wed Nov 11 2026. No macro, syntax, notation, axiom, sorry.
-/
import Derived.Test.YbulkbgzmFmtRows
import Derived.LaidByTextLater
import Derived.SevenTiedAt
import Derived.LaidSub
import Derived.LaidOnce
namespace Go.Proofs.YbulkbgzmFmt
open Go
set_option maxRecDepth 100000
theorem seatTie1 : Ybaf.prog.laidByTextLater [("example.com/palimpsest/palimpsest.ErrEmptyKey", Rows.laid_example_com_palimpsest_palimpsest_ErrEmptyKey), ("example.com/palimpsest/palimpsest.ErrKeyTooLong", Rows.laid_example_com_palimpsest_palimpsest_ErrKeyTooLong), ("example.com/palimpsest/palimpsest.ErrValueTooLong", Rows.laid_example_com_palimpsest_palimpsest_ErrValueTooLong), ("example.com/palimpsest/palimpsest.ErrSessionDone", Rows.laid_example_com_palimpsest_palimpsest_ErrSessionDone), ("example.com/palimpsest/palimpsest.ErrSessionOpen", Rows.laid_example_com_palimpsest_palimpsest_ErrSessionOpen)] [.sentinel, .sentinel, .sentinel, .sentinel, .sentinel] true :=
  Program.laidByTextLater_by_one 104 8 2 (by kernel_rfl) (by kernel_rfl) (by kernel_rfl) (by kernel_rfl) (by kernel_rfl) (by kernel_rfl) (fun _ _ => by kernel_rfl)
theorem noOwnUnsafe : Ybaf.pinned.checked.prog.headLifts.contains "ownunsafe" = false := by kernel_rfl
theorem tie : Ybaf.prog.laidByTextLater [("example.com/palimpsest/palimpsest.ErrEmptyKey", Rows.laid_example_com_palimpsest_palimpsest_ErrEmptyKey), ("example.com/palimpsest/palimpsest.ErrKeyTooLong", Rows.laid_example_com_palimpsest_palimpsest_ErrKeyTooLong), ("example.com/palimpsest/palimpsest.ErrValueTooLong", Rows.laid_example_com_palimpsest_palimpsest_ErrValueTooLong)] [.sentinel, .sentinel, .sentinel] true :=
  Program.laidByTextLater.sub seatTie1 ["example.com/palimpsest/palimpsest.ErrEmptyKey", "example.com/palimpsest/palimpsest.ErrKeyTooLong", "example.com/palimpsest/palimpsest.ErrValueTooLong"] (by kernel_rfl) (by kernel_rfl)
theorem lawS2898AModel_row_tie : Rows.lawS2898AModelRow.laidByTextAt .later Ybaf.pinned [.sentinel, .sentinel, .sentinel] true :=
  OpenClaim.laidByTextAt_later rfl rfl tie noOwnUnsafe
theorem lawS2898ARoundTrip_row_tie : Rows.lawS2898ARoundTripRow.laidByTextAt .later Ybaf.pinned [.sentinel, .sentinel, .sentinel] true :=
  OpenClaim.laidByTextAt_later rfl rfl tie noOwnUnsafe
theorem tie2 : Ybaf.prog.laidByTextLater [("example.com/palimpsest/palimpsest.ErrEmptyKey", Rows.laid_example_com_palimpsest_palimpsest_ErrEmptyKey), ("example.com/palimpsest/palimpsest.ErrKeyTooLong", Rows.laid_example_com_palimpsest_palimpsest_ErrKeyTooLong), ("example.com/palimpsest/palimpsest.ErrValueTooLong", Rows.laid_example_com_palimpsest_palimpsest_ErrValueTooLong), ("example.com/palimpsest/palimpsest.ErrSessionDone", Rows.laid_example_com_palimpsest_palimpsest_ErrSessionDone), ("example.com/palimpsest/palimpsest.ErrSessionOpen", Rows.laid_example_com_palimpsest_palimpsest_ErrSessionOpen)] [.sentinel, .sentinel, .sentinel, .sentinel, .sentinel] true :=
  Program.laidByTextLater.sub seatTie1 ["example.com/palimpsest/palimpsest.ErrEmptyKey", "example.com/palimpsest/palimpsest.ErrKeyTooLong", "example.com/palimpsest/palimpsest.ErrValueTooLong", "example.com/palimpsest/palimpsest.ErrSessionDone", "example.com/palimpsest/palimpsest.ErrSessionOpen"] (by kernel_rfl) (by kernel_rfl)
theorem lawS2898CScript_row_tie : Rows.lawS2898CScriptRow.laidByTextAt .later Ybaf.pinned [.sentinel, .sentinel, .sentinel, .sentinel, .sentinel] true :=
  OpenClaim.laidByTextAt_later rfl rfl tie2 noOwnUnsafe
end Go.Proofs.YbulkbgzmFmt
