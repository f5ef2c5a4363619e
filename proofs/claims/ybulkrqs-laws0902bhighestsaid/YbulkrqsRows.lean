/-
  No cell of these rows narrows 'for every input' (looked for: loops, veiled, ifaces, maps, wideKeys, modest, calm, conditions, laid).
  DERIVED. THE GIVEN ROWS OF THIS SEAT. 1 by the template 'for every input the law returns true; each argument reads behind the call as it read before'; 0 by the template 'total and deterministic' (their statements: YbulkrqsTotals.lean).
  GIVEN WITH THE SEED: the statements are not yours to turn. If you find one false, say at which input.
  Laid BY PROGRAM, IN A SANDBOX (cutbox-rows.mjs): the forced cells as the released guide's own fill.sh prints them over the translation 2ee0ef19e794ec0c… (all of the seat's roots in one cut). By AI agents, Wed Nov 11 2026. No macro, syntax, notation, axiom, sorry.
-/
import Derived.Test.YbulkrqsChecked
import GoSem.Claim
import GoSem.ClaimJoined
import GoSem.ClaimMapViews
import Derived.JoinedTies
import Derived.KernelRfl
namespace Go.Proofs.Ybulkrqs
/- THE CELL 'sum', in the pinned program and in every row, IS THE sha256 OF THE DUMP (.gsa) THAT YbulkrqsProg.lean LOADS. Nothing in Lean hashes anything: it is a label: what it is worth is what the hold of that sum in a sandbox is worth. -/
noncomputable def Yba.pinned : Pinned := { name := "ybulkrqs", sum := "2ee0ef19e794ec0c2a9afed368f6866b6e4f13c6a8bbaf1b2da5bd8cafc37af4", checked := Yba.checked }
namespace Rows
def none {H : Type} : Left H := { results := [], args := [] }

/-- 'homeward.LawS0902BHighest': WHATEVER THE INPUT: true; the input reads as it did. -/
def lawS0902BHighestSpec : ChangeSpec := { name := "lawS0902BHighest", fn := fun _ => fun
  | [d1, d2] => { results := [.lit (.bool true)], args := [d1, d2] }
  | _ => none }
def lawS0902BHighestRow : OpenClaim := { program := "ybulkrqs", sum := "2ee0ef19e794ec0c2a9afed368f6866b6e4f13c6a8bbaf1b2da5bd8cafc37af4", func := "example.com/homeward/homeward.LawS0902BHighest", spec := "lawS0902BHighest", unfollowed := true, recurses := true, apart := false }
def LawS0902BHighestSaid : Prop := lawS0902BHighestRow.holds Yba.pinned (OpenSpec.ofChange lawS0902BHighestSpec)

/-- ITS FALSE NEIGHBOUR: 'it returns false'. Refute it at one input. -/
def lawS0902BHighestWrong : ChangeSpec := { name := "lawS0902BHighest", fn := fun _ => fun
  | [d1, d2] => { results := [.lit (.bool false)], args := [d1, d2] }
  | _ => none }
def LawS0902BHighestWrongFalsely : Prop := lawS0902BHighestRow.holds Yba.pinned (OpenSpec.ofChange lawS0902BHighestWrong)

end Rows
end Go.Proofs.Ybulkrqs
