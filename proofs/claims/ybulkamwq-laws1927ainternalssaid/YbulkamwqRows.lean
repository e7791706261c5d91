/-
  No cell of these rows narrows 'for every input' (looked for: loops, veiled, ifaces, maps, wideKeys, modest, calm, conditions, laid).
  DERIVED. THE GIVEN ROWS OF THIS SEAT. 4 by the template 'for every input the law returns true; each argument reads behind the call as it read before'; 0 by the template 'total and deterministic' (their statements: YbulkamwqTotals.lean).
  GIVEN WITH THE SEED: the statements are not yours to turn. If you find one false, say at which input.
  Laid BY PROGRAM, IN A SANDBOX (cutbox-rows.mjs): the forced cells as the released guide's own fill.sh prints them over the translation 5bf2a284c4c656cf… (all of the seat's roots in one cut). By AI agents, Wed Nov 11 2026. No macro, syntax, notation, axiom, sorry.
-/
import Derived.Test.YbulkamwqChecked
import GoSem.Claim
import GoSem.ClaimJoined
import GoSem.ClaimMapViews
import Derived.JoinedTies
import Derived.KernelRfl
namespace Go.Proofs.Ybulkamwq
/- THE CELL 'sum', in the pinned program and in every row, IS THE sha256 OF THE DUMP (.gsa) THAT YbulkamwqProg.lean LOADS. Nothing in Lean hashes anything: it is a label: what it is worth is what the hold of that sum in a sandbox is worth. -/
noncomputable def Yba.pinned : Pinned := { name := "ybulkamwq", sum := "5bf2a284c4c656cfe12e7c1052455d7e117669a4b371d506fdfce0d9d5bc3794", checked := Yba.checked }
namespace Rows
def none {H : Type} : Left H := { results := [], args := [] }

/-- 'compact.LawS1927AInternals': WHATEVER THE INPUT: true; the input reads as it did. -/
def lawS1927AInternalsSpec : ChangeSpec := { name := "lawS1927AInternals", fn := fun _ => fun
  | [d] => { results := [.lit (.bool true)], args := [d] }
  | _ => none }
def lawS1927AInternalsRow : OpenClaim := { program := "ybulkamwq", sum := "5bf2a284c4c656cfe12e7c1052455d7e117669a4b371d506fdfce0d9d5bc3794", func := "example.com/heapsight/heapsight/internal/compact.LawS1927AInternals", spec := "lawS1927AInternals", apart := false }
def LawS1927AInternalsSaid : Prop := lawS1927AInternalsRow.holds Yba.pinned (OpenSpec.ofChange lawS1927AInternalsSpec)

/-- ITS FALSE NEIGHBOUR: 'it returns false'. Refute it at one input. -/
def lawS1927AInternalsWrong : ChangeSpec := { name := "lawS1927AInternals", fn := fun _ => fun
  | [d] => { results := [.lit (.bool false)], args := [d] }
  | _ => none }
def LawS1927AInternalsWrongFalsely : Prop := lawS1927AInternalsRow.holds Yba.pinned (OpenSpec.ofChange lawS1927AInternalsWrong)

/-- 'compact.LawS1927AAtLen': WHATEVER THE INPUT: true; the input reads as it did. -/
def lawS1927AAtLenSpec : ChangeSpec := { name := "lawS1927AAtLen", fn := fun _ => fun
  | [d] => { results := [.lit (.bool true)], args := [d] }
  | _ => none }
def lawS1927AAtLenRow : OpenClaim := { program := "ybulkamwq", sum := "5bf2a284c4c656cfe12e7c1052455d7e117669a4b371d506fdfce0d9d5bc3794", func := "example.com/heapsight/heapsight/internal/compact.LawS1927AAtLen", spec := "lawS1927AAtLen", apart := false }
def LawS1927AAtLenSaid : Prop := lawS1927AAtLenRow.holds Yba.pinned (OpenSpec.ofChange lawS1927AAtLenSpec)

/-- ITS FALSE NEIGHBOUR: 'it returns false'. Refute it at one input. -/
def lawS1927AAtLenWrong : ChangeSpec := { name := "lawS1927AAtLen", fn := fun _ => fun
  | [d] => { results := [.lit (.bool false)], args := [d] }
  | _ => none }
def LawS1927AAtLenWrongFalsely : Prop := lawS1927AAtLenRow.holds Yba.pinned (OpenSpec.ofChange lawS1927AAtLenWrong)

/-- 'compact.LawS1927BAtAppended': WHATEVER THE INPUT: true; the input reads as it did. -/
def lawS1927BAtAppendedSpec : ChangeSpec := { name := "lawS1927BAtAppended", fn := fun _ => fun
  | [d] => { results := [.lit (.bool true)], args := [d] }
  | _ => none }
def lawS1927BAtAppendedRow : OpenClaim := { program := "ybulkamwq", sum := "5bf2a284c4c656cfe12e7c1052455d7e117669a4b371d506fdfce0d9d5bc3794", func := "example.com/heapsight/heapsight/internal/compact.LawS1927BAtAppended", spec := "lawS1927BAtAppended", apart := false }
def LawS1927BAtAppendedSaid : Prop := lawS1927BAtAppendedRow.holds Yba.pinned (OpenSpec.ofChange lawS1927BAtAppendedSpec)

/-- ITS FALSE NEIGHBOUR: 'it returns false'. Refute it at one input. -/
def lawS1927BAtAppendedWrong : ChangeSpec := { name := "lawS1927BAtAppended", fn := fun _ => fun
  | [d] => { results := [.lit (.bool false)], args := [d] }
  | _ => none }
def LawS1927BAtAppendedWrongFalsely : Prop := lawS1927BAtAppendedRow.holds Yba.pinned (OpenSpec.ofChange lawS1927BAtAppendedWrong)

/-- 'compact.LawS1927BAtInterleaved': WHATEVER THE INPUT: true; the input reads as it did. -/
def lawS1927BAtInterleavedSpec : ChangeSpec := { name := "lawS1927BAtInterleaved", fn := fun _ => fun
  | [d] => { results := [.lit (.bool true)], args := [d] }
  | _ => none }
def lawS1927BAtInterleavedRow : OpenClaim := { program := "ybulkamwq", sum := "5bf2a284c4c656cfe12e7c1052455d7e117669a4b371d506fdfce0d9d5bc3794", func := "example.com/heapsight/heapsight/internal/compact.LawS1927BAtInterleaved", spec := "lawS1927BAtInterleaved", apart := false }
def LawS1927BAtInterleavedSaid : Prop := lawS1927BAtInterleavedRow.holds Yba.pinned (OpenSpec.ofChange lawS1927BAtInterleavedSpec)

/-- ITS FALSE NEIGHBOUR: 'it returns false'. Refute it at one input. -/
def lawS1927BAtInterleavedWrong : ChangeSpec := { name := "lawS1927BAtInterleaved", fn := fun _ => fun
  | [d] => { results := [.lit (.bool false)], args := [d] }
  | _ => none }
def LawS1927BAtInterleavedWrongFalsely : Prop := lawS1927BAtInterleavedRow.holds Yba.pinned (OpenSpec.ofChange lawS1927BAtInterleavedWrong)

end Rows
end Go.Proofs.Ybulkamwq
