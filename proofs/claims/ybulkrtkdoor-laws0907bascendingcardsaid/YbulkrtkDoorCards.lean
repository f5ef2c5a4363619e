/-
  DERIVED. GIVEN WITH THE SEED: THE CARDS: each row of YbulkrtkDoorRows.lean that lists a variable, with what it lists TIED to the program's text (the seventh form; the later family's looks); each row that meets fmt, with fmt's text TOLD by the authors' own Lean function (tested against real Go, not proved from fmt's source: count such statements apart). THE CARD IS WHAT COUNTS. Prove the row's statement (the work); the ties are given (YbulkrtkDoorTie.lean); close each card by the builder's one call (the guide's Derived/Test/ToyasCard.lean, 'card_holds'). Laid BY PROGRAM, IN A SANDBOX (cutbox-door.mjs). By AI agents, Wed Nov 11 2026. No macro, syntax, notation, axiom, sorry.
-/
import Derived.Test.YbulkrtkDoorRows
import GoSem.ClaimSeven
namespace Go.Proofs.YbulkrtkDoor
namespace Rows

/-- THE TIED CARD OF 'hailstone.LawS0907BFixedClock'. -/
def lawS0907BFixedClockCard : Claim7 := { stood := { row := lawS0907BFixedClockRow, standIns := [], harness := (true, "0cbde8cd3344587f11179a1715f8191619b0883f3efee04a2abdde0cbeac4d5a"), looks := true }, kinds := [], alts := [], laidByText := true, laidKinds := [.data, .data, .data, .sentinel, .data], laidTests := true, laidLooks := .later }
def LawS0907BFixedClockCardSaid : Prop := Claim7.holds Ybad.pinned (.plain (OpenSpec.ofChange lawS0907BFixedClockSpec)) lawS0907BFixedClockCard

/-- THE TIED CARD OF 'hailstone.LawS0907BAscending'. -/
def lawS0907BAscendingCard : Claim7 := { stood := { row := lawS0907BAscendingRow, standIns := [], harness := (true, "0cbde8cd3344587f11179a1715f8191619b0883f3efee04a2abdde0cbeac4d5a"), looks := true }, kinds := [], alts := [], laidByText := true, laidKinds := [.data, .data, .data, .sentinel, .data], laidTests := true, laidLooks := .later }
def LawS0907BAscendingCardSaid : Prop := Claim7.holds Ybad.pinned (.plain (OpenSpec.ofChange lawS0907BAscendingSpec)) lawS0907BAscendingCard

/-- THE TIED CARD OF 'hailstone.LawS0907BTimeRanOut'. -/
def lawS0907BTimeRanOutCard : Claim7 := { stood := { row := lawS0907BTimeRanOutRow, standIns := [], harness := (true, "0cbde8cd3344587f11179a1715f8191619b0883f3efee04a2abdde0cbeac4d5a"), looks := true }, kinds := [], alts := [], laidByText := true, laidKinds := [.data, .data, .data, .sentinel, .data], laidTests := true, laidLooks := .later }
def LawS0907BTimeRanOutCardSaid : Prop := Claim7.holds Ybad.pinned (.plain (OpenSpec.ofChange lawS0907BTimeRanOutSpec)) lawS0907BTimeRanOutCard
end Rows
end Go.Proofs.YbulkrtkDoor
