/-
  No cell of these rows narrows 'for every input' (looked for: loops, veiled, ifaces, maps, wideKeys, modest, calm, conditions, laid).
  DERIVED. THE GIVEN ROWS OF THIS SEAT. 3 by the template 'for every input the law returns true; each argument reads behind the call as it read before'; 0 by the template 'total and deterministic' (their statements: YbulkrsiTotals.lean).
  GIVEN WITH THE SEED: the statements are not yours to turn. If you find one false, say at which input.
  Laid BY PROGRAM, IN A SANDBOX (cutbox-rows.mjs): the forced cells as the released guide's own fill.sh prints them over the translation dfe113b943f1c479… (all of the seat's roots in one cut). By AI agents, Wed Nov 11 2026. No macro, syntax, notation, axiom, sorry.
-/
import Derived.Test.YbulkrsiChecked
import GoSem.Claim
import GoSem.ClaimJoined
import GoSem.ClaimMapViews
import Derived.JoinedTies
import Derived.KernelRfl
namespace Go.Proofs.Ybulkrsi
/- THE CELL 'sum', in the pinned program and in every row, IS THE sha256 OF THE DUMP (.gsa) THAT YbulkrsiProg.lean LOADS. Nothing in Lean hashes anything: it is a label: what it is worth is what the hold of that sum in a sandbox is worth. -/
noncomputable def Yba.pinned : Pinned := { name := "ybulkrsi", sum := "dfe113b943f1c479e3243a7d1777f70f67774fc9f06dd06c23e4a9f1f5d8c54f", checked := Yba.checked }
namespace Rows
def none {H : Type} : Left H := { results := [], args := [] }

/-- 'tiebreak.LawS0905BModel': WHATEVER THE INPUT: true; the input reads as it did. -/
def lawS0905BModelSpec : ChangeSpec := { name := "lawS0905BModel", fn := fun _ => fun
  | [d1, d2] => { results := [.lit (.bool true)], args := [d1, d2] }
  | _ => none }
def lawS0905BModelRow : OpenClaim := { program := "ybulkrsi", sum := "dfe113b943f1c479e3243a7d1777f70f67774fc9f06dd06c23e4a9f1f5d8c54f", func := "example.com/tiebreak/tiebreak.LawS0905BModel", spec := "lawS0905BModel", inPlace := ["internal/bytealg.IndexByteString", "internal/bytealg.IndexString"], named := ["internal/bytealg.MaxLen"], plainKeys := false, apart := false }
def LawS0905BModelSaid : Prop := lawS0905BModelRow.holds Yba.pinned (OpenSpec.ofChange lawS0905BModelSpec)

/-- ITS FALSE NEIGHBOUR: 'it returns false'. Refute it at one input. -/
def lawS0905BModelWrong : ChangeSpec := { name := "lawS0905BModel", fn := fun _ => fun
  | [d1, d2] => { results := [.lit (.bool false)], args := [d1, d2] }
  | _ => none }
def LawS0905BModelWrongFalsely : Prop := lawS0905BModelRow.holds Yba.pinned (OpenSpec.ofChange lawS0905BModelWrong)

/-- 'tiebreak.LawS0905BRoundTrip': WHATEVER THE INPUT: true; the input reads as it did. -/
def lawS0905BRoundTripSpec : ChangeSpec := { name := "lawS0905BRoundTrip", fn := fun _ => fun
  | [d1, d2] => { results := [.lit (.bool true)], args := [d1, d2] }
  | _ => none }
def lawS0905BRoundTripRow : OpenClaim := { program := "ybulkrsi", sum := "dfe113b943f1c479e3243a7d1777f70f67774fc9f06dd06c23e4a9f1f5d8c54f", func := "example.com/tiebreak/tiebreak.LawS0905BRoundTrip", spec := "lawS0905BRoundTrip", inPlace := ["internal/bytealg.IndexByteString", "internal/bytealg.IndexString"], named := ["internal/bytealg.MaxLen"], plainKeys := false, apart := false }
def LawS0905BRoundTripSaid : Prop := lawS0905BRoundTripRow.holds Yba.pinned (OpenSpec.ofChange lawS0905BRoundTripSpec)

/-- ITS FALSE NEIGHBOUR: 'it returns false'. Refute it at one input. -/
def lawS0905BRoundTripWrong : ChangeSpec := { name := "lawS0905BRoundTrip", fn := fun _ => fun
  | [d1, d2] => { results := [.lit (.bool false)], args := [d1, d2] }
  | _ => none }
def LawS0905BRoundTripWrongFalsely : Prop := lawS0905BRoundTripRow.holds Yba.pinned (OpenSpec.ofChange lawS0905BRoundTripWrong)

/-- 'tiebreak.LawS0905CMatchesPaths': WHATEVER THE INPUT: true; the input reads as it did. -/
def lawS0905CMatchesPathsSpec : ChangeSpec := { name := "lawS0905CMatchesPaths", fn := fun _ => fun
  | [d1, d2, d3, d4] => { results := [.lit (.bool true)], args := [d1, d2, d3, d4] }
  | _ => none }
def lawS0905CMatchesPathsRow : OpenClaim := { program := "ybulkrsi", sum := "dfe113b943f1c479e3243a7d1777f70f67774fc9f06dd06c23e4a9f1f5d8c54f", func := "example.com/tiebreak/tiebreak.LawS0905CMatchesPaths", spec := "lawS0905CMatchesPaths", unfollowed := true, recurses := true, plainKeys := false, apart := false }
def LawS0905CMatchesPathsSaid : Prop := lawS0905CMatchesPathsRow.holds Yba.pinned (OpenSpec.ofChange lawS0905CMatchesPathsSpec)

/-- ITS FALSE NEIGHBOUR: 'it returns false'. Refute it at one input. -/
def lawS0905CMatchesPathsWrong : ChangeSpec := { name := "lawS0905CMatchesPaths", fn := fun _ => fun
  | [d1, d2, d3, d4] => { results := [.lit (.bool false)], args := [d1, d2, d3, d4] }
  | _ => none }
def LawS0905CMatchesPathsWrongFalsely : Prop := lawS0905CMatchesPathsRow.holds Yba.pinned (OpenSpec.ofChange lawS0905CMatchesPathsWrong)

end Rows
end Go.Proofs.Ybulkrsi
