/-
  DERIVED. GIVEN WITH THE SEED: THE CARDS: each row of YbulkrqsDoorRows.lean that lists a variable, with what it lists TIED to the program's text (the seventh form; the later family's looks); each row that meets fmt, with fmt's text TOLD by the authors' own Lean function (tested against real Go, not proved from fmt's source: count such statements apart). THE CARD IS WHAT COUNTS. Prove the row's statement (the work); the ties are given (YbulkrqsDoorTie.lean); close each card by the builder's one call (the guide's Derived/Test/ToyasCard.lean, 'card_holds'). Laid BY PROGRAM, IN A SANDBOX (cutbox-door.mjs). By AI agents, Wed Nov 11 2026. No macro, syntax, notation, axiom, sorry.
-/
import Derived.Test.YbulkrqsDoorRows
import GoSem.ClaimSeven
namespace Go.Proofs.YbulkrqsDoor
namespace Rows

/-- THE TIED CARD OF 'homeward.LawS0902ALeaveOrRemember'. -/
def lawS0902ALeaveOrRememberCard : Claim7 := { stood := { row := lawS0902ALeaveOrRememberRow, standIns := [], harness := (true, "c305973bacdb5fbc3cb536458c48d12d95db715990c8e2e8ae2dd802e0f1222a"), looks := true }, kinds := [], alts := [], laidByText := true, laidKinds := [.data, .data, .zeroDeep], laidTests := true, laidLooks := .later }
def LawS0902ALeaveOrRememberCardSaid : Prop := Claim7.holds Ybad.pinned (.plain (OpenSpec.ofChange lawS0902ALeaveOrRememberSpec)) lawS0902ALeaveOrRememberCard

/-- THE TIED CARD OF 'homeward.LawS0902AWaitWithRules'. -/
def lawS0902AWaitWithRulesCard : Claim7 := { stood := { row := lawS0902AWaitWithRulesRow, standIns := [], harness := (true, "c305973bacdb5fbc3cb536458c48d12d95db715990c8e2e8ae2dd802e0f1222a"), looks := true }, kinds := [], alts := [], laidByText := true, laidKinds := [.data, .data, .zeroDeep], laidTests := true, laidLooks := .later }
def LawS0902AWaitWithRulesCardSaid : Prop := Claim7.holds Ybad.pinned (.plain (OpenSpec.ofChange lawS0902AWaitWithRulesSpec)) lawS0902AWaitWithRulesCard
end Rows
end Go.Proofs.YbulkrqsDoor
