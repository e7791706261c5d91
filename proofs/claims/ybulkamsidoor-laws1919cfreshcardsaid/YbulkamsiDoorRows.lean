/-
  NARROWER THAN 'FOR EVERY INPUT', by the rows' own cells (each row's printed sentence says how): LawS1919CList: laid · LawS1919CAgrees: laid · LawS1919CFresh: laid.
  DERIVED. THE GIVEN ROWS OF THIS SEAT. 3 by the template 'for every input the law returns true; each argument reads behind the call as it read before'; 0 by the template 'total and deterministic' (their statements: YbulkamsiDoorTotals.lean).
  GIVEN WITH THE SEED: the statements are not yours to turn. If you find one false, say at which input.
  Laid BY PROGRAM, IN A SANDBOX (cutbox-rows.mjs): the forced cells as the released guide's own fill.sh prints them over the translation 316e2dc46faa5091… (all of the seat's roots in one cut). By AI agents, Wed Nov 11 2026. No macro, syntax, notation, axiom, sorry.
-/
import Derived.Test.YbulkamsiDoorChecked
import GoSem.Claim
import GoSem.ClaimJoined
import GoSem.ClaimMapViews
import Derived.JoinedTies
import Derived.KernelRfl
namespace Go.Proofs.YbulkamsiDoor
/- THE CELL 'sum', in the pinned program and in every row, IS THE sha256 OF THE DUMP (.gsa) THAT YbulkamsiDoorProg.lean LOADS. Nothing in Lean hashes anything: it is a label: what it is worth is what the hold of that sum in a sandbox is worth. -/
noncomputable def Ybad.pinned : Pinned := { name := "ybulkamsidoor", sum := "316e2dc46faa5091fa4a0310f05a8372c20fd53f647d3edc62c1181acd216476", checked := Ybad.checked }
namespace Rows
def none {H : Type} : Left H := { results := [], args := [] }

/- WHAT THE LISTED PACKAGE-LEVEL VARIABLES READ AS WHEN THE CALL BEGINS. Each datum BY PROGRAM (the guide's laid-datum.mjs) off the statement by which the dump's own 'gosem.cut.vars' lays the variable. In a bare row this is a premise. The card (YbulkamsiDoorCards.lean) ties it to the program's text. -/
def laid_example_com_kinledger_kinledger_internal_policy_figures {H : Type} : DataW H := .slice [.lit (.string [110, 101, 116, 95, 97, 115, 115, 101, 116, 115]), .lit (.string [116, 111, 116, 97, 108, 95, 97, 115, 115, 101, 116, 115]), .lit (.string [109, 97, 114, 107, 101, 116, 95, 99, 97, 112])] []

/-- 'store.LawS1919CList': WHATEVER THE INPUT: true; the input reads as it did. -/
def lawS1919CListSpec : ChangeSpec := { name := "lawS1919CList", vars := ["example.com/kinledger/kinledger/internal/policy.figures"], fn := fun _ => fun
  | [g1] => { results := [.lit (.bool true)], args := [], vars := [g1] }
  | _ => none }
def lawS1919CListRow : OpenClaim := { program := "ybulkamsidoor", sum := "316e2dc46faa5091fa4a0310f05a8372c20fd53f647d3edc62c1181acd216476", func := "example.com/kinledger/kinledger/internal/store.LawS1919CList", spec := "lawS1919CList", named := ["example.com/kinledger/kinledger/internal/policy.figures"], apart := false, laid := [("example.com/kinledger/kinledger/internal/policy.figures", laid_example_com_kinledger_kinledger_internal_policy_figures)] }
def LawS1919CListSaid : Prop := lawS1919CListRow.holds Ybad.pinned (OpenSpec.ofChange lawS1919CListSpec)

/-- ITS FALSE NEIGHBOUR: 'it returns false'. Refute it at one input. -/
def lawS1919CListWrong : ChangeSpec := { name := "lawS1919CList", vars := ["example.com/kinledger/kinledger/internal/policy.figures"], fn := fun _ => fun
  | [g1] => { results := [.lit (.bool false)], args := [], vars := [g1] }
  | _ => none }
def LawS1919CListWrongFalsely : Prop := lawS1919CListRow.holds Ybad.pinned (OpenSpec.ofChange lawS1919CListWrong)

/-- 'store.LawS1919CAgrees': WHATEVER THE INPUT: true; the input reads as it did. -/
def lawS1919CAgreesSpec : ChangeSpec := { name := "lawS1919CAgrees", vars := ["example.com/kinledger/kinledger/internal/policy.figures"], fn := fun _ => fun
  | [g1] => { results := [.lit (.bool true)], args := [], vars := [g1] }
  | _ => none }
def lawS1919CAgreesRow : OpenClaim := { program := "ybulkamsidoor", sum := "316e2dc46faa5091fa4a0310f05a8372c20fd53f647d3edc62c1181acd216476", func := "example.com/kinledger/kinledger/internal/store.LawS1919CAgrees", spec := "lawS1919CAgrees", named := ["example.com/kinledger/kinledger/internal/policy.figures"], apart := false, laid := [("example.com/kinledger/kinledger/internal/policy.figures", laid_example_com_kinledger_kinledger_internal_policy_figures)] }
def LawS1919CAgreesSaid : Prop := lawS1919CAgreesRow.holds Ybad.pinned (OpenSpec.ofChange lawS1919CAgreesSpec)

/-- ITS FALSE NEIGHBOUR: 'it returns false'. Refute it at one input. -/
def lawS1919CAgreesWrong : ChangeSpec := { name := "lawS1919CAgrees", vars := ["example.com/kinledger/kinledger/internal/policy.figures"], fn := fun _ => fun
  | [g1] => { results := [.lit (.bool false)], args := [], vars := [g1] }
  | _ => none }
def LawS1919CAgreesWrongFalsely : Prop := lawS1919CAgreesRow.holds Ybad.pinned (OpenSpec.ofChange lawS1919CAgreesWrong)

/-- 'store.LawS1919CFresh': WHATEVER THE INPUT: true; the input reads as it did. -/
def lawS1919CFreshSpec : ChangeSpec := { name := "lawS1919CFresh", vars := ["example.com/kinledger/kinledger/internal/policy.figures"], fn := fun _ => fun
  | [g1] => { results := [.lit (.bool true)], args := [], vars := [g1] }
  | _ => none }
def lawS1919CFreshRow : OpenClaim := { program := "ybulkamsidoor", sum := "316e2dc46faa5091fa4a0310f05a8372c20fd53f647d3edc62c1181acd216476", func := "example.com/kinledger/kinledger/internal/store.LawS1919CFresh", spec := "lawS1919CFresh", named := ["example.com/kinledger/kinledger/internal/policy.figures"], apart := false, laid := [("example.com/kinledger/kinledger/internal/policy.figures", laid_example_com_kinledger_kinledger_internal_policy_figures)] }
def LawS1919CFreshSaid : Prop := lawS1919CFreshRow.holds Ybad.pinned (OpenSpec.ofChange lawS1919CFreshSpec)

/-- ITS FALSE NEIGHBOUR: 'it returns false'. Refute it at one input. -/
def lawS1919CFreshWrong : ChangeSpec := { name := "lawS1919CFresh", vars := ["example.com/kinledger/kinledger/internal/policy.figures"], fn := fun _ => fun
  | [g1] => { results := [.lit (.bool false)], args := [], vars := [g1] }
  | _ => none }
def LawS1919CFreshWrongFalsely : Prop := lawS1919CFreshRow.holds Ybad.pinned (OpenSpec.ofChange lawS1919CFreshWrong)

end Rows
end Go.Proofs.YbulkamsiDoor
