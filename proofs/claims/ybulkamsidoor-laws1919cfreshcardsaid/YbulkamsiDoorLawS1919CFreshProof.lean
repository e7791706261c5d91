/-
  THE CARD OF 'store.LawS1919CFresh' PROVED: the listed variable is opened (YbulkamsiDoorLaid), the walk (YbulkamsiDoorWalks), the row, the tied card.
-/
import Derived.Test.YbulkamsiDoorLaid
import Derived.Test.YbulkamsiDoorTie
import Derived.Test.YbulkamsiDoorCards
import Derived.SevenTiedAt
namespace Go.Proofs.YbulkamsiDoor.freshLaw
open Go.ChangeShapes Go.WideShapes Go.ChangeAt Go.WideMaps Go.WideElems Go.RowKit

set_option maxRecDepth 100000 in
theorem lifted (os : Os) (started : os.Started) (H : Type) (enc : TypeId × Value → H) :
    ReturnsInHanded {} Ybad.checked os 5 .any (fun w args => (Rows.lawS1919CFreshSpec.pre enc Ybad.prog Ybad.f5 [] false w args ∧ laidMetH Ybad.prog laid1 w) ∧ sizedMet enc Ybad.prog Ybad.f5 (OpenSpec.ofChange Rows.lawS1919CFreshSpec) false w args)
      (Rows.lawS1919CFreshSpec.post enc Ybad.prog Ybad.f5 false true false false) := by
  refine returnsInHanded_of_change_and (C := Ybad.checked) (X := fun w _ => laidMetH Ybad.prog laid1 w) (fun _ _ _ hh h => h.of_heap hh) own started (by kernel_rfl) Ybad.func5
    (ChangeSpec.witness_shaped (enc := enc) (C := Ybad.checked) (os := os) (X := fun w _ => laidMetH Ybad.prog laid1 w) false (World.doorLaid Ybad.prog 14 os) #[] 8 rfl (World.shaped_of_RefB (by kernel_rfl) (by kernel_rfl)) (by kernel_rfl) (by kernel_rfl) (by kernel_rfl) (door_met os _)) ?_
  intro W base args ds gs before hval0 hW _ _ hL _
  have hW' := hW
  obtain ⟨p, q, hA0, hV0, rfl, hfz, hnd⟩ := hW
  have hA : DataW.TrodAll enc Ybad.prog W 0 (fun _ => true) true Ybad.f5.params.toList args.toList ds p := hA0
  have hV : DataW.TrodVars enc Ybad.prog W (fun _ => true) [figName] gs q := hV0
  rw [Ybad.params5] at hA
  obtain ⟨hargs, rfl, rfl⟩ := trodAll_none hA
  obtain rfl : args = #[] := by cases args; simp_all
  obtain ⟨g, t, cs, fuel, d, p', rfl, hg, ht, hvar, hd, rfl⟩ := trodVars_one hV
  obtain rfl := Option.some.inj (gFig.symm.trans hg)
  obtain rfl := Option.some.inj (tFig.symm.trans ht)
  obtain ⟨b, off, cap, hv, hF⟩ := of_laid hL
  obtain rfl : cs = #[.slice (some ⟨b, off, none⟩) 3 cap] := Option.some.inj (hvar.symm.trans hv)
  clear hA0 hV0 hval0
  have hltv : ∀ x ∈ p', x.block < W.heap.size := fun x hx => hW'.lt x (List.mem_append_right _ (List.mem_append_right _ hx))
  have h0lt : 0 < W.heap.size := World.block_lt_of_cell? _ _ hF.var
  refine (fresh_walk b off cap W hF).mono fun e W' ⟨he, hB⟩ => ?_
  subst he
  obtain ⟨fuel', hd'⟩ := Below.trod laidOut (by kernel_rfl) (of_decide_eq_true (by kernel_rfl)) (v := .slice (some ⟨b, off, none⟩) 3 cap) (⟨fuel, by simpa [Value.cells] using hd⟩ : DataW.Trod enc Ybad.prog W 0 (fun _ => true) true 26 (.slice (some ⟨b, off, none⟩) 3 cap) d p') hB hltv
  have hv' := trodVars_mk1 (enc := enc) (spare := fun b => decide (b < W.heap.size)) hg ht (var?_below hB hg h0lt hvar) (by simpa [Value.cells] using hd')
  exact ⟨_, rfl, _, _, _, [], [], (MemPlace.row ⟨0, 0, none⟩ (#[.slice (some ⟨b, off, none⟩) 3 cap] : Array Value).size ++ p'), hW', trodAll_mk1 (shut_bool Ybad.underlying4 _), trodAll_mk0, hv', hB.frame _, fun h => by cases h⟩

theorem row_holds : Rows.LawS1919CFreshSaid :=
  OpenClaim.holds_of_wide 5 Ybad.f5 rfl rfl rfl rfl rfl rfl rfl ⟨rfl, rfl, rfl, rfl, rfl⟩ rfl rfl rfl rfl rfl (by kernel_rfl) Ybad.func5 (by kernel_rfl)
    (of_decide_eq_true (by kernel_rfl)) (by unfold Func.isWrapper; first | (rw [if_pos (by decide +kernel)]; kernel_rfl) | (rw [if_neg (by decide +kernel)]; exact ⟨rfl, rfl⟩))
    (fun os started H enc _ => lifted os started H enc)

/-- THE STATEMENT: THE TIED CARD. -/
theorem proved : Rows.LawS1919CFreshCardSaid :=
  Claim7.holds_tied_plain_at .later [] [.widerDeep] true (true, "11f20592862466e3c715126b370415500670f3dc8b8e1cece28837da8336ce20") false
    row_holds (fun _ h => by cases h) (by kernel_rfl) (fun _ h => by cases h) lawS1919CFresh_row_tie rfl ⟨rfl, rfl⟩ (by kernel_rfl) rfl
    (fun f fn hf hfn => by
      obtain rfl : f = 5 := Option.some.inj ((show Ybad.prog.funcNamed Rows.lawS1919CFreshRow.func = some 5 by kernel_rfl).symm.trans hf) |>.symm
      obtain rfl : fn = Ybad.f5 := (Option.some.inj (Ybad.func5.symm.trans hfn)).symm
      exact ⟨by kernel_rfl, fun j t ht => by
        rw [Ybad.params5] at ht
        simp at ht⟩)
    (by kernel_rfl)
#print axioms proved
end Go.Proofs.YbulkamsiDoor.freshLaw
