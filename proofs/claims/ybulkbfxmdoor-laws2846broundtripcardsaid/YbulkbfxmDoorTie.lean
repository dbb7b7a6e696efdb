/-
  DERIVED. GIVEN WITH THE SEED: THE PROGRAM's TIES (one call each: nine closed facts by the kernel) AND EACH ROW's TIE, after the 31st guide's Derived/Test/Toyas{Tie, Card}.lean. No idea stands in it: it is a product of the set-up. Laid BY PROGRAM, IN A SANDBOX (cutbox-door.mjs). By AI agents, Wed Nov 11 2026. No macro, syntax, notation, axiom, sorry.
-/
import Derived.Test.YbulkbfxmDoorRows
import Derived.LaidByTextLater
import Derived.SevenTiedAt
import Derived.LaidSub
import Derived.LaidOnce
namespace Go.Proofs.YbulkbfxmDoor
open Go
set_option maxRecDepth 100000
theorem seatTie1 : Ybad.prog.laidByTextLater [("example.com/fanout/fanout/varint.ErrTruncated", Rows.laid_example_com_fanout_fanout_varint_ErrTruncated), ("example.com/fanout/fanout/varint.ErrOverflow", Rows.laid_example_com_fanout_fanout_varint_ErrOverflow)] [.sentinel, .sentinel] true :=
  Program.laidByTextLater_by_one 47 8 2 (by kernel_rfl) (by kernel_rfl) (by kernel_rfl) (by kernel_rfl) (by kernel_rfl) (by kernel_rfl) (fun _ _ => by kernel_rfl)
theorem noOwnUnsafe : Ybad.pinned.checked.prog.headLifts.contains "ownunsafe" = false := by kernel_rfl
theorem tie : Ybad.prog.laidByTextLater [("example.com/fanout/fanout/varint.ErrTruncated", Rows.laid_example_com_fanout_fanout_varint_ErrTruncated), ("example.com/fanout/fanout/varint.ErrOverflow", Rows.laid_example_com_fanout_fanout_varint_ErrOverflow)] [.sentinel, .sentinel] true :=
  Program.laidByTextLater.sub seatTie1 ["example.com/fanout/fanout/varint.ErrTruncated", "example.com/fanout/fanout/varint.ErrOverflow"] (by kernel_rfl) (by kernel_rfl)
theorem lawS2846BModel_row_tie : Rows.lawS2846BModelRow.laidByTextAt .later Ybad.pinned [.sentinel, .sentinel] true :=
  OpenClaim.laidByTextAt_later rfl rfl tie noOwnUnsafe
theorem lawS2846BRoundTrip_row_tie : Rows.lawS2846BRoundTripRow.laidByTextAt .later Ybad.pinned [.sentinel, .sentinel] true :=
  OpenClaim.laidByTextAt_later rfl rfl tie noOwnUnsafe
theorem lawS2846BSuffix_row_tie : Rows.lawS2846BSuffixRow.laidByTextAt .later Ybad.pinned [.sentinel, .sentinel] true :=
  OpenClaim.laidByTextAt_later rfl rfl tie noOwnUnsafe
end Go.Proofs.YbulkbfxmDoor
