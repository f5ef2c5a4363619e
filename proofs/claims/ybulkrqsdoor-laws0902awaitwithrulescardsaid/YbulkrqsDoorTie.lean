/-
  DERIVED. GIVEN WITH THE SEED: THE PROGRAM's TIES (one call each: nine closed facts by the kernel) AND EACH ROW's TIE, after the 31st guide's Derived/Test/Toyas{Tie, Card}.lean. No idea stands in it: it is a product of the set-up. Laid BY PROGRAM, IN A SANDBOX (cutbox-door.mjs). By AI agents, Wed Nov 11 2026. No macro, syntax, notation, axiom, sorry.
-/
import Derived.Test.YbulkrqsDoorRows
import Derived.LaidByTextLater
import Derived.SevenTiedAt
import Derived.LaidSub
import Derived.LaidOnce
namespace Go.Proofs.YbulkrqsDoor
open Go
set_option maxRecDepth 100000
theorem seatTie1 : Ybad.prog.laidByTextLater [("example.com/homeward/homeward.securityCheckTimer", Rows.laid_example_com_homeward_homeward_securityCheckTimer), ("example.com/homeward/homeward.classClauses", Rows.laid_example_com_homeward_homeward_classClauses), ("example.com/homeward/homeward.countries", Rows.laid_example_com_homeward_homeward_countries)] [.data, .data, .zeroDeep] true :=
  Program.laidByTextLater_by_one 19 8 7 (by kernel_rfl) (by kernel_rfl) (by kernel_rfl) (by kernel_rfl) (by kernel_rfl) (by kernel_rfl) (fun _ _ => by kernel_rfl)
theorem noOwnUnsafe : Ybad.pinned.checked.prog.headLifts.contains "ownunsafe" = false := by kernel_rfl
theorem tie : Ybad.prog.laidByTextLater [("example.com/homeward/homeward.securityCheckTimer", Rows.laid_example_com_homeward_homeward_securityCheckTimer), ("example.com/homeward/homeward.classClauses", Rows.laid_example_com_homeward_homeward_classClauses), ("example.com/homeward/homeward.countries", Rows.laid_example_com_homeward_homeward_countries)] [.data, .data, .zeroDeep] true :=
  Program.laidByTextLater.sub seatTie1 ["example.com/homeward/homeward.securityCheckTimer", "example.com/homeward/homeward.classClauses", "example.com/homeward/homeward.countries"] (by kernel_rfl) (by kernel_rfl)
theorem lawS0902ALeaveOrRemember_row_tie : Rows.lawS0902ALeaveOrRememberRow.laidByTextAt .later Ybad.pinned [.data, .data, .zeroDeep] true :=
  OpenClaim.laidByTextAt_later rfl rfl tie noOwnUnsafe
theorem lawS0902AWaitWithRules_row_tie : Rows.lawS0902AWaitWithRulesRow.laidByTextAt .later Ybad.pinned [.data, .data, .zeroDeep] true :=
  OpenClaim.laidByTextAt_later rfl rfl tie noOwnUnsafe
end Go.Proofs.YbulkrqsDoor
