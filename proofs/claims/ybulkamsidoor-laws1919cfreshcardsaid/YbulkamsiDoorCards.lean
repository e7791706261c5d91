/-
  DERIVED. GIVEN WITH THE SEED: THE CARDS: each row of YbulkamsiDoorRows.lean that lists a variable, with what it lists TIED to the program's text (the seventh form; the later family's looks); each row that meets fmt, with fmt's text TOLD by the authors' own Lean function (tested against real Go, not proved from fmt's source: count such statements apart). THE CARD IS WHAT COUNTS. Prove the row's statement (the work); the ties are given (YbulkamsiDoorTie.lean); close each card by the builder's one call (the guide's Derived/Test/ToyasCard.lean, 'card_holds'). Laid BY PROGRAM, IN A SANDBOX (cutbox-door.mjs). By AI agents, Wed Nov 11 2026. No macro, syntax, notation, axiom, sorry.
-/
import Derived.Test.YbulkamsiDoorRows
import GoSem.ClaimSeven
namespace Go.Proofs.YbulkamsiDoor
namespace Rows

/-- THE TIED CARD OF 'store.LawS1919CList'. -/
def lawS1919CListCard : Claim7 := { stood := { row := lawS1919CListRow, standIns := [], harness := (true, "11f20592862466e3c715126b370415500670f3dc8b8e1cece28837da8336ce20"), looks := false }, kinds := [], alts := [], laidByText := true, laidKinds := [.widerDeep], laidTests := true, laidLooks := .later }
def LawS1919CListCardSaid : Prop := Claim7.holds Ybad.pinned (.plain (OpenSpec.ofChange lawS1919CListSpec)) lawS1919CListCard

/-- THE TIED CARD OF 'store.LawS1919CAgrees'. -/
def lawS1919CAgreesCard : Claim7 := { stood := { row := lawS1919CAgreesRow, standIns := [], harness := (true, "11f20592862466e3c715126b370415500670f3dc8b8e1cece28837da8336ce20"), looks := false }, kinds := [], alts := [], laidByText := true, laidKinds := [.widerDeep], laidTests := true, laidLooks := .later }
def LawS1919CAgreesCardSaid : Prop := Claim7.holds Ybad.pinned (.plain (OpenSpec.ofChange lawS1919CAgreesSpec)) lawS1919CAgreesCard

/-- THE TIED CARD OF 'store.LawS1919CFresh'. -/
def lawS1919CFreshCard : Claim7 := { stood := { row := lawS1919CFreshRow, standIns := [], harness := (true, "11f20592862466e3c715126b370415500670f3dc8b8e1cece28837da8336ce20"), looks := false }, kinds := [], alts := [], laidByText := true, laidKinds := [.widerDeep], laidTests := true, laidLooks := .later }
def LawS1919CFreshCardSaid : Prop := Claim7.holds Ybad.pinned (.plain (OpenSpec.ofChange lawS1919CFreshSpec)) lawS1919CFreshCard
end Rows
end Go.Proofs.YbulkamsiDoor
