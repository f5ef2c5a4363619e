/-
  NARROWER THAN 'FOR EVERY INPUT', by the rows' own cells (each row's printed sentence says how): LawS0902ALeaveOrRemember: laid · LawS0902AWaitWithRules: laid.
  DERIVED. THE GIVEN ROWS OF THIS SEAT. 2 by the template 'for every input the law returns true; each argument reads behind the call as it read before'; 0 by the template 'total and deterministic' (their statements: YbulkrqsDoorTotals.lean).
  GIVEN WITH THE SEED: the statements are not yours to turn. If you find one false, say at which input.
  Laid BY PROGRAM, IN A SANDBOX (cutbox-rows.mjs): the forced cells as the released guide's own fill.sh prints them over the translation fd498e2786fde7db… (all of the seat's roots in one cut). By AI agents, Wed Nov 11 2026. No macro, syntax, notation, axiom, sorry.
-/
import Derived.Test.YbulkrqsDoorChecked
import GoSem.Claim
import GoSem.ClaimJoined
import GoSem.ClaimMapViews
import Derived.JoinedTies
import Derived.KernelRfl
namespace Go.Proofs.YbulkrqsDoor
/- THE CELL 'sum', in the pinned program and in every row, IS THE sha256 OF THE DUMP (.gsa) THAT YbulkrqsDoorProg.lean LOADS. Nothing in Lean hashes anything: it is a label: what it is worth is what the hold of that sum in a sandbox is worth. -/
noncomputable def Ybad.pinned : Pinned := { name := "ybulkrqsdoor", sum := "fd498e2786fde7db2279588a7d86e82f37d352934a2223822d044fa6b3953728", checked := Ybad.checked }
namespace Rows
def none {H : Type} : Left H := { results := [], args := [] }

/- WHAT THE LISTED PACKAGE-LEVEL VARIABLES READ AS WHEN THE CALL BEGINS. Each datum BY PROGRAM (the guide's laid-datum.mjs) off the statement by which the dump's own 'gosem.cut.vars' lays the variable. In a bare row this is a premise. The card (YbulkrqsDoorCards.lean) ties it to the program's text. -/
def laid_example_com_homeward_homeward_securityCheckTimer {H : Type} : DataW H := .agg [.lit (.int .u8 0), .lit (.string []), .lit (.bool true)]
def laid_example_com_homeward_homeward_classClauses {H : Type} : DataW H := .agg [.lit (.string [84, 83, 32, 50, 51, 46, 49, 50, 50, 32, 52, 46, 52, 46, 51, 46, 49, 46, 49, 32, 105]), .lit (.string [84, 83, 32, 50, 51, 46, 49, 50, 50, 32, 52, 46, 52, 46, 51, 46, 49, 46, 49, 32, 105, 105]), .lit (.string [84, 83, 32, 50, 51, 46, 49, 50, 50, 32, 52, 46, 52, 46, 51, 46, 49, 46, 49, 32, 105, 105, 105]), .lit (.string [84, 83, 32, 50, 51, 46, 49, 50, 50, 32, 52, 46, 52, 46, 51, 46, 49, 46, 49, 32, 105, 118]), .lit (.string [84, 83, 32, 50, 51, 46, 49, 50, 50, 32, 67, 46, 51]), .lit (.string [84, 83, 32, 50, 51, 46, 49, 50, 50, 32, 67, 46, 50])]
def laid_example_com_homeward_homeward_countries {H : Type} : DataW H := .nil

/-- 'homeward.LawS0902ALeaveOrRemember': WHATEVER THE INPUT: true; the input reads as it did. -/
def lawS0902ALeaveOrRememberSpec : ChangeSpec := { name := "lawS0902ALeaveOrRemember", vars := ["example.com/homeward/homeward.countries", "example.com/homeward/homeward.classClauses", "example.com/homeward/homeward.securityCheckTimer"], fn := fun _ => fun
  | [d1, d2, d3, d4, d5, g1, g2, g3] => { results := [.lit (.bool true)], args := [d1, d2, d3, d4, d5], vars := [g1, g2, g3] }
  | _ => none }
def lawS0902ALeaveOrRememberRow : OpenClaim := { program := "ybulkrqsdoor", sum := "fd498e2786fde7db2279588a7d86e82f37d352934a2223822d044fa6b3953728", func := "example.com/homeward/homeward.LawS0902ALeaveOrRemember", spec := "lawS0902ALeaveOrRemember", unfollowed := true, recurses := true, named := ["example.com/homeward/homeward.countries", "example.com/homeward/homeward.classClauses", "example.com/homeward/homeward.securityCheckTimer"], apart := false, laid := [("example.com/homeward/homeward.securityCheckTimer", laid_example_com_homeward_homeward_securityCheckTimer), ("example.com/homeward/homeward.classClauses", laid_example_com_homeward_homeward_classClauses), ("example.com/homeward/homeward.countries", laid_example_com_homeward_homeward_countries)] }
def LawS0902ALeaveOrRememberSaid : Prop := lawS0902ALeaveOrRememberRow.holds Ybad.pinned (OpenSpec.ofChange lawS0902ALeaveOrRememberSpec)

/-- ITS FALSE NEIGHBOUR: 'it returns false'. Refute it at one input. -/
def lawS0902ALeaveOrRememberWrong : ChangeSpec := { name := "lawS0902ALeaveOrRemember", vars := ["example.com/homeward/homeward.countries", "example.com/homeward/homeward.classClauses", "example.com/homeward/homeward.securityCheckTimer"], fn := fun _ => fun
  | [d1, d2, d3, d4, d5, g1, g2, g3] => { results := [.lit (.bool false)], args := [d1, d2, d3, d4, d5], vars := [g1, g2, g3] }
  | _ => none }
def LawS0902ALeaveOrRememberWrongFalsely : Prop := lawS0902ALeaveOrRememberRow.holds Ybad.pinned (OpenSpec.ofChange lawS0902ALeaveOrRememberWrong)

/-- 'homeward.LawS0902AWaitWithRules': WHATEVER THE INPUT: true; the input reads as it did. -/
def lawS0902AWaitWithRulesSpec : ChangeSpec := { name := "lawS0902AWaitWithRules", vars := ["example.com/homeward/homeward.countries", "example.com/homeward/homeward.classClauses", "example.com/homeward/homeward.securityCheckTimer"], fn := fun _ => fun
  | [d1, d2, d3, g1, g2, g3] => { results := [.lit (.bool true)], args := [d1, d2, d3], vars := [g1, g2, g3] }
  | _ => none }
def lawS0902AWaitWithRulesRow : OpenClaim := { program := "ybulkrqsdoor", sum := "fd498e2786fde7db2279588a7d86e82f37d352934a2223822d044fa6b3953728", func := "example.com/homeward/homeward.LawS0902AWaitWithRules", spec := "lawS0902AWaitWithRules", unfollowed := true, recurses := true, named := ["example.com/homeward/homeward.countries", "example.com/homeward/homeward.classClauses", "example.com/homeward/homeward.securityCheckTimer"], apart := false, laid := [("example.com/homeward/homeward.securityCheckTimer", laid_example_com_homeward_homeward_securityCheckTimer), ("example.com/homeward/homeward.classClauses", laid_example_com_homeward_homeward_classClauses), ("example.com/homeward/homeward.countries", laid_example_com_homeward_homeward_countries)] }
def LawS0902AWaitWithRulesSaid : Prop := lawS0902AWaitWithRulesRow.holds Ybad.pinned (OpenSpec.ofChange lawS0902AWaitWithRulesSpec)

/-- ITS FALSE NEIGHBOUR: 'it returns false'. Refute it at one input. -/
def lawS0902AWaitWithRulesWrong : ChangeSpec := { name := "lawS0902AWaitWithRules", vars := ["example.com/homeward/homeward.countries", "example.com/homeward/homeward.classClauses", "example.com/homeward/homeward.securityCheckTimer"], fn := fun _ => fun
  | [d1, d2, d3, g1, g2, g3] => { results := [.lit (.bool false)], args := [d1, d2, d3], vars := [g1, g2, g3] }
  | _ => none }
def LawS0902AWaitWithRulesWrongFalsely : Prop := lawS0902AWaitWithRulesRow.holds Ybad.pinned (OpenSpec.ofChange lawS0902AWaitWithRulesWrong)

end Rows
end Go.Proofs.YbulkrqsDoor
