/-
  DERIVED. GIVEN WITH THE SEED: THE PROGRAM's TIES (one call each: nine closed facts by the kernel) AND EACH ROW's TIE, after the 31st guide's Derived/Test/Toyas{Tie, Card}.lean. No idea stands in it: it is a product of the set-up. Laid BY PROGRAM, IN A SANDBOX (cutbox-door.mjs). By AI agents, Wed Nov 11 2026. No macro, syntax, notation, axiom, sorry.
-/
import Derived.Test.YbulkrtkDoorRows
import Derived.LaidByTextLater
import Derived.SevenTiedAt
import Derived.LaidSub
import Derived.LaidOnce
namespace Go.Proofs.YbulkrtkDoor
open Go
set_option maxRecDepth 100000
theorem seatTie1 : Ybad.prog.laidByTextLater [("math/bits.deBruijn32tab", Rows.laid_math_bits_deBruijn32tab), ("math/bits.deBruijn64tab", Rows.laid_math_bits_deBruijn64tab), ("internal/strconv.uint64pow10", Rows.laid_internal_strconv_uint64pow10), ("example.com/hailstone/hailstone.errTimeRanOut", Rows.laid_example_com_hailstone_hailstone_errTimeRanOut), ("example.com/hailstone/hailstone.layouts", Rows.laid_example_com_hailstone_hailstone_layouts)] [.data, .data, .data, .sentinel, .data] true :=
  Program.laidByTextLater_by_one 52 8 65 (by kernel_rfl) (by kernel_rfl) (by kernel_rfl) (by kernel_rfl) (by kernel_rfl) (by kernel_rfl) (fun _ _ => by kernel_rfl)
theorem noOwnUnsafe : Ybad.pinned.checked.prog.headLifts.contains "ownunsafe" = false := by kernel_rfl
theorem tie : Ybad.prog.laidByTextLater [("math/bits.deBruijn32tab", Rows.laid_math_bits_deBruijn32tab), ("math/bits.deBruijn64tab", Rows.laid_math_bits_deBruijn64tab), ("internal/strconv.uint64pow10", Rows.laid_internal_strconv_uint64pow10), ("example.com/hailstone/hailstone.errTimeRanOut", Rows.laid_example_com_hailstone_hailstone_errTimeRanOut), ("example.com/hailstone/hailstone.layouts", Rows.laid_example_com_hailstone_hailstone_layouts)] [.data, .data, .data, .sentinel, .data] true :=
  Program.laidByTextLater.sub seatTie1 ["math/bits.deBruijn32tab", "math/bits.deBruijn64tab", "internal/strconv.uint64pow10", "example.com/hailstone/hailstone.errTimeRanOut", "example.com/hailstone/hailstone.layouts"] (by kernel_rfl) (by kernel_rfl)
theorem lawS0907BFixedClock_row_tie : Rows.lawS0907BFixedClockRow.laidByTextAt .later Ybad.pinned [.data, .data, .data, .sentinel, .data] true :=
  OpenClaim.laidByTextAt_later rfl rfl tie noOwnUnsafe
theorem lawS0907BAscending_row_tie : Rows.lawS0907BAscendingRow.laidByTextAt .later Ybad.pinned [.data, .data, .data, .sentinel, .data] true :=
  OpenClaim.laidByTextAt_later rfl rfl tie noOwnUnsafe
theorem lawS0907BTimeRanOut_row_tie : Rows.lawS0907BTimeRanOutRow.laidByTextAt .later Ybad.pinned [.data, .data, .data, .sentinel, .data] true :=
  OpenClaim.laidByTextAt_later rfl rfl tie noOwnUnsafe
end Go.Proofs.YbulkrtkDoor
