/-
  No cell of these rows narrows 'for every input' (looked for: loops, veiled, ifaces, maps, wideKeys, modest, calm, conditions, laid).
  DERIVED. THE GIVEN ROWS OF THIS SEAT. 1 by the template 'for every input the law returns true; each argument reads behind the call as it read before'; 0 by the template 'total and deterministic' (their statements: YbulkamxeTotals.lean).
  GIVEN WITH THE SEED: the statements are not yours to turn. If you find one false, say at which input.
  Laid BY PROGRAM, IN A SANDBOX (cutbox-rows.mjs): the forced cells as the released guide's own fill.sh prints them over the translation 3114148e7100a413… (all of the seat's roots in one cut). By AI agents, Wed Nov 11 2026. No macro, syntax, notation, axiom, sorry.
-/
import Derived.Test.YbulkamxeChecked
import GoSem.Claim
import GoSem.ClaimJoined
import GoSem.ClaimMapViews
import Derived.JoinedTies
import Derived.KernelRfl
namespace Go.Proofs.Ybulkamxe
/- THE CELL 'sum', in the pinned program and in every row, IS THE sha256 OF THE DUMP (.gsa) THAT YbulkamxeProg.lean LOADS. Nothing in Lean hashes anything: it is a label: what it is worth is what the hold of that sum in a sandbox is worth. -/
noncomputable def Yba.pinned : Pinned := { name := "ybulkamxe", sum := "3114148e7100a413b7b1592de05c5a0b585033a884bdc4bb372c5ae9791ca787", checked := Yba.checked }
namespace Rows
def none {H : Type} : Left H := { results := [], args := [] }

/-- 'config.LawS1928CRoundTrip': WHATEVER THE INPUT: true; the input reads as it did. -/
def lawS1928CRoundTripSpec : ChangeSpec := { name := "lawS1928CRoundTrip", fn := fun _ => fun
  | [d1, d2] => { results := [.lit (.bool true)], args := [d1, d2] }
  | _ => none }
def lawS1928CRoundTripRow : OpenClaim := { program := "ybulkamxe", sum := "3114148e7100a413b7b1592de05c5a0b585033a884bdc4bb372c5ae9791ca787", func := "example.com/plumbline/plumbline/config.LawS1928CRoundTrip", spec := "lawS1928CRoundTrip", apart := false }
def LawS1928CRoundTripSaid : Prop := lawS1928CRoundTripRow.holds Yba.pinned (OpenSpec.ofChange lawS1928CRoundTripSpec)

/-- ITS FALSE NEIGHBOUR: 'it returns false'. Refute it at one input. -/
def lawS1928CRoundTripWrong : ChangeSpec := { name := "lawS1928CRoundTrip", fn := fun _ => fun
  | [d1, d2] => { results := [.lit (.bool false)], args := [d1, d2] }
  | _ => none }
def LawS1928CRoundTripWrongFalsely : Prop := lawS1928CRoundTripRow.holds Yba.pinned (OpenSpec.ofChange lawS1928CRoundTripWrong)

end Rows
end Go.Proofs.Ybulkamxe
