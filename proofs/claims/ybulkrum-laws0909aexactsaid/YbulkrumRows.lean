/-
  No cell of these rows narrows 'for every input' (looked for: loops, veiled, ifaces, maps, wideKeys, modest, calm, conditions, laid).
  DERIVED. THE GIVEN ROWS OF THIS SEAT. 2 by the template 'for every input the law returns true; each argument reads behind the call as it read before'; 0 by the template 'total and deterministic' (their statements: YbulkrumTotals.lean).
  GIVEN WITH THE SEED: the statements are not yours to turn. If you find one false, say at which input.
  Laid BY PROGRAM, IN A SANDBOX (cutbox-rows.mjs): the forced cells as the released guide's own fill.sh prints them over the translation b7648c557d59180c… (all of the seat's roots in one cut). By AI agents, Wed Nov 11 2026. No macro, syntax, notation, axiom, sorry.
-/
import Derived.Test.YbulkrumChecked
import GoSem.Claim
import GoSem.ClaimJoined
import GoSem.ClaimMapViews
import Derived.JoinedTies
import Derived.KernelRfl
namespace Go.Proofs.Ybulkrum
/- THE CELL 'sum', in the pinned program and in every row, IS THE sha256 OF THE DUMP (.gsa) THAT YbulkrumProg.lean LOADS. Nothing in Lean hashes anything: it is a label: what it is worth is what the hold of that sum in a sandbox is worth. -/
noncomputable def Yba.pinned : Pinned := { name := "ybulkrum", sum := "b7648c557d59180c2255d5b4188ce3c41ed8439a63cccf2bc883168153a42238", checked := Yba.checked }
namespace Rows
def none {H : Type} : Left H := { results := [], args := [] }

/-- 'apdu.LawS0909AExact': WHATEVER THE INPUT: true; the input reads as it did. -/
def lawS0909AExactSpec : ChangeSpec := { name := "lawS0909AExact", fn := fun _ => fun
  | [d] => { results := [.lit (.bool true)], args := [d] }
  | _ => none }
def lawS0909AExactRow : OpenClaim := { program := "ybulkrum", sum := "b7648c557d59180c2255d5b4188ce3c41ed8439a63cccf2bc883168153a42238", func := "example.com/sigilcard/sigilcard/internal/apdu.LawS0909AExact", spec := "lawS0909AExact", apart := false }
def LawS0909AExactSaid : Prop := lawS0909AExactRow.holds Yba.pinned (OpenSpec.ofChange lawS0909AExactSpec)

/-- ITS FALSE NEIGHBOUR: 'it returns false'. Refute it at one input. -/
def lawS0909AExactWrong : ChangeSpec := { name := "lawS0909AExact", fn := fun _ => fun
  | [d] => { results := [.lit (.bool false)], args := [d] }
  | _ => none }
def LawS0909AExactWrongFalsely : Prop := lawS0909AExactRow.holds Yba.pinned (OpenSpec.ofChange lawS0909AExactWrong)

/-- 'apdu.LawS0909ARange': WHATEVER THE INPUT: true; the input reads as it did. -/
def lawS0909ARangeSpec : ChangeSpec := { name := "lawS0909ARange", fn := fun _ => fun
  | [d1, d2] => { results := [.lit (.bool true)], args := [d1, d2] }
  | _ => none }
def lawS0909ARangeRow : OpenClaim := { program := "ybulkrum", sum := "b7648c557d59180c2255d5b4188ce3c41ed8439a63cccf2bc883168153a42238", func := "example.com/sigilcard/sigilcard/internal/apdu.LawS0909ARange", spec := "lawS0909ARange", apart := false }
def LawS0909ARangeSaid : Prop := lawS0909ARangeRow.holds Yba.pinned (OpenSpec.ofChange lawS0909ARangeSpec)

/-- ITS FALSE NEIGHBOUR: 'it returns false'. Refute it at one input. -/
def lawS0909ARangeWrong : ChangeSpec := { name := "lawS0909ARange", fn := fun _ => fun
  | [d1, d2] => { results := [.lit (.bool false)], args := [d1, d2] }
  | _ => none }
def LawS0909ARangeWrongFalsely : Prop := lawS0909ARangeRow.holds Yba.pinned (OpenSpec.ofChange lawS0909ARangeWrong)

end Rows
end Go.Proofs.Ybulkrum
