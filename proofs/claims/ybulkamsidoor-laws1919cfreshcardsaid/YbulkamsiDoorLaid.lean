/-
  WHAT THE CONDITION 'laid' GIVES THE WALKS: the variable 'figures' is a slice over three strings; the door's own heap meets it.
-/
import Derived.Test.YbulkamsiDoorWalks
import Derived.ProofKit
import Derived.LaidMore
import Derived.OpenShut
import Derived.Stop.Joined
namespace Go.Proofs.YbulkamsiDoor
open Go.ChangeShapes Go.WideShapes Go.ChangeAt Go.WideMaps Go.WideElems Go.RowKit

theorem own : ownKnob Ybad.prog.godebug = none := by kernel_rfl
theorem laidOut : laidOutB Ybad.prog = true := by kernel_rfl
/-- The listed variable's name, off the given row. -/
abbrev figName : String := Rows.lawS1919CListSpec.vars.headD ""
theorem gFig : Ybad.prog.globalNamed figName = some 0 := by kernel_rfl
theorem tFig : (Ybad.prog.globals[0]?).map (·.type) = some 26 := by kernel_rfl
theorem cells28 : Ybad.prog.cellsOf 28 = 1 := by kernel_rfl

abbrev laid1 : List (String × DataW Unit) := [(figName, Rows.laid_example_com_kinledger_kinledger_internal_policy_figures)]

/-- The door's own heap meets the condition. -/
theorem door_met (os : Os) (args : Array Value) : laidMetH Ybad.prog laid1 ((World.doorLaid Ybad.prog 14 os).forCall (fun _ _ => 0) ⟨#[], args, []⟩).memory :=
  laidMetH_of_parts3 (fuel := 8) (laidMet_of_run' 8 (by kernel_rfl) (by kernel_rfl)) (by kernel_rfl) (by kernel_rfl)

theorem str_of {s : ByteArray} {l : List UInt8} (h : s.data.toList = l) : s = ⟨l.toArray⟩ := by
  cases s
  subst h
  simp

/-- WHAT THE CONDITION GIVES THE WALKS. -/
theorem of_laid {W : World} (h : laidMetH Ybad.prog laid1 W) : ∃ b off cap, W.var? Ybad.prog figName = some #[.slice (some ⟨b, off, none⟩) 3 cap] ∧ Fig W b off cap := by
  rw [MakeChecks.laidMetH_plain _ _ _ (by kernel_rfl)] at h
  obtain ⟨ps, ⟨g0, t0, cs0, f0, p0, q0, hg0, ht0, hv0, hd0, _, _⟩, _, _⟩ := h
  obtain rfl := Option.some.inj (gFig.symm.trans hg0)
  obtain rfl := Option.some.inj (tFig.symm.trans ht0)
  obtain ⟨a, cap, hcs, _, hel⟩ := open_row Ybad.underlying26 cells28 hd0
  obtain ⟨v0, n0, q0, hc0, hr0⟩ := hel 0 _ rfl
  obtain ⟨v1, n1, q1, hc1, hr1⟩ := hel 1 _ rfl
  obtain ⟨v2, n2, q2, hc2, hr2⟩ := hel 2 _ rfl
  obtain ⟨s0, e0, x0, _⟩ := DataW.trod_string Ybad.underlying28 hr0
  obtain ⟨s1, e1, x1, _⟩ := DataW.trod_string Ybad.underlying28 hr1
  obtain ⟨s2, e2, x2, _⟩ := DataW.trod_string Ybad.underlying28 hr2
  simp only [List.cons.injEq, and_true] at e0 e1 e2
  subst e0 e1 e2
  simp only [Prod.mk.injEq, DataW.lit.injEq, Lit.string.injEq] at x0 x1 x2
  obtain rfl := str_of x0.1.symm
  obtain rfl := str_of x1.1.symm
  obtain rfl := str_of x2.1.symm
  obtain ⟨b, off, spot⟩ := a
  have hspot : spot = none := by simpa [Addr.add] using World.cell?_spot hc0
  subst hspot
  rw [Addr.add_lit] at hc0 hc1 hc2
  have hcs' := Array.eq_one_of_toList hcs
  subst hcs'
  refine ⟨b, off, cap, hv0, World.block_lt_of_cell? _ _ hc0, ?_, ?_⟩
  · have := World.var?_cell hg0 hv0 0
    simpa using this
  · intro i hi
    match i, hi with
    | 0, _ => exact hc0
    | 1, _ => exact hc1
    | 2, _ => exact hc2
end Go.Proofs.YbulkamsiDoor
