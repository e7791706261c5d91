/-
  THE PROOF OF 'Rows.LawS1928CRoundTripSaid': the frame, after the skeleton tool's for slices of integers; the walk: YbulkamxeLaw.
-/
import Derived.Test.YbulkamxeRows
import Derived.Test.YbulkamxeLaw
import Derived.WalkKit
import Derived.ProofKit
import Derived.OpenShut
import Derived.ShutString
import Derived.ChangeOld
import Derived.Below
import Derived.SliceStrings
namespace Go.Proofs.Ybulkamxe.lawS1928CRoundTrip
open Go.ChangeShapes Go.WideShapes Go.ChangeAt Go.RowKit
open Go.ChangeMaps (open_string shut_string)
set_option linter.unusedVariables false

theorem own : ownKnob Yba.prog.godebug = none := by kernel_rfl
theorem laidOut : laidOutB Yba.prog = true := by kernel_rfl

/-- What the walk is told of the slice of strings that came in. -/
theorem words_of {w : World} {x : Addr} {len : Nat} {ws : List ByteArray} (hl : len ≤ ws.length) (hc : ∀ i, i < ws.length → w.cell? (x.add i) = some (.string (ws.getD i ByteArray.empty))) : WordsIn w (some x) len ws := by
  refine ⟨fun h0 => ?_⟩
  obtain ⟨b, off, spot⟩ := x
  have hspot : spot = none := by simpa [Addr.add] using World.cell?_spot (hc 0 (by omega))
  subst hspot
  have hc' : ∀ j, j < len → w.cell? ⟨b, off + j, none⟩ = some (.string (ws.getD j ByteArray.empty)) := fun j hj => by
    have := hc j (by omega)
    rwa [Addr.add_lit] at this
  exact ⟨b, off, rfl, World.block_lt_of_cell? _ _ (hc' 0 h0), hc'⟩

/-- .. of the slice of bytes. -/
theorem seps_of {w : World} {x : Addr} {len : Nat} {zs : List Int} (hl : len ≤ zs.length) (hc : ∀ i, i < zs.length → w.cell? (x.add i) = some (.int .u8 (zs.getD i 0))) (hw : ∀ n ∈ zs, (Lit.int .u8 n).wf = true) : SepsIn w (some x) len zs := by
  refine ⟨fun h0 => ?_, fun j hj => bounds_u8 (hw _ (Plain.char_mem zs j (by omega)))⟩
  obtain ⟨b, off, spot⟩ := x
  have hspot : spot = none := by simpa [Addr.add] using World.cell?_spot (hc 0 (by omega))
  subst hspot
  have hc' : ∀ j, j < len → w.cell? ⟨b, off + j, none⟩ = some (.int .u8 (zs.getD j 0)) := fun j hj => by
    have := hc j (by omega)
    rwa [Addr.add_lit] at this
  exact ⟨b, off, rfl, World.block_lt_of_cell? _ _ (hc' 0 h0), hc'⟩

theorem getD_mem_str (ws : List ByteArray) (j : Nat) (h : j < ws.length) : ws.getD j ByteArray.empty ∈ ws := by
  simp [List.getD, h]

set_option maxRecDepth 100000 in
theorem lifted (os : Os) (started : os.Started) (H : Type) (enc : TypeId × Value → H) :
    ReturnsInHanded {} Yba.checked os 3 .any (Rows.lawS1928CRoundTripSpec.pre6 enc Yba.prog Yba.f3 Rows.lawS1928CRoundTripRow.domain false) (Rows.lawS1928CRoundTripSpec.post enc Yba.prog Yba.f3 false true false false) := by
  refine returnsInHanded_of_change (C := Yba.checked) own started (by kernel_rfl) Yba.func3
    (ChangeSpec.witness6 (enc := enc) (C := Yba.checked) false ⟨#[], #[.slice none 0 0, .slice none 0 0], []⟩ 8 (by kernel_rfl) (by kernel_rfl) (by kernel_rfl) (by kernel_rfl)) ?_
  intro W base args ds gs before hval0 hW hcnd _
  have hval : ∀ (j : Nat) t v, Yba.f3.params[j]? = some t → args[j]? = some v → Value.okWide Yba.prog W .any base t v := hval0
  have hW' := hW
  obtain ⟨p, q, hA0, hV, rfl, hfz, hnd⟩ := hW
  have hA : DataW.TrodAll enc Yba.prog W 0 (fun _ => true) true Yba.f3.params.toList args.toList ds p := hA0
  rw [Yba.params3] at hA hval
  obtain ⟨v0, v1, d0, d1, p0, p1, rfl, rfl, rfl, h0, h1⟩ := trodAll_two hA
  obtain ⟨rfl, rfl⟩ := trodVars_none hV
  obtain ⟨a0, len0, cap0, rfl⟩ := okWide_slice Yba.underlying22 (hval 0 22 v0 rfl rfl)
  obtain ⟨a1, len1, cap1, rfl⟩ := okWide_slice Yba.underlying23 (hval 1 23 v1 rfl rfl)
  have k0 := h0
  have k1 := h1
  have lt0 : ∀ x ∈ p0, x.block < W.heap.size := by obtain ⟨m, hm⟩ := k0; exact DataW.trod_lt m _ _ _ hm
  have lt1 : ∀ x ∈ p1, x.block < W.heap.size := by obtain ⟨m, hm⟩ := k1; exact DataW.trod_lt m _ _ _ hm
  obtain ⟨ws, hl0, hW0, hz0⟩ : ∃ ws, len0 ≤ 9223372036854775807 ∧ WordsIn W a0 len0 ws ∧ ∀ j, j < len0 → (ws.getD j ByteArray.empty).size ≤ 9223372036854775807 := by
    obtain ⟨fuel, hf⟩ := h0
    rcases open_strings Yba.underlying22 Yba.underlying9 (by kernel_rfl) hf with ⟨hcs, _⟩ | ⟨x, l, c, ws, hcs, _, hl, hm, hz, _, hcell, hwz⟩
    · simp [Value.cells] at hcs
      obtain ⟨rfl, rfl, rfl⟩ := hcs
      exact ⟨[], by omega, ⟨fun h => absurd h (by omega)⟩, fun j hj => absurd hj (by omega)⟩
    · simp [Value.cells] at hcs
      obtain ⟨rfl, rfl, rfl⟩ := hcs
      have hz' : ws.length = cap0 := by simpa using hz
      unfold maxLen at hm hwz
      exact ⟨ws, by omega, words_of (by omega) hcell, fun j hj => hwz _ (getD_mem_str ws j (by omega))⟩
  obtain ⟨ss, hl1, hS1⟩ : ∃ ss, len1 ≤ 9223372036854775807 ∧ SepsIn W a1 len1 ss := by
    obtain ⟨fuel, hf⟩ := h1
    rcases open_ints Yba.underlying23 Yba.underlying5 (by kernel_rfl) hf with ⟨hcs, _⟩ | ⟨x, l, c, zs, hcs, _, hl, hm, hz, _, hcell, hwz⟩
    · simp [Value.cells] at hcs
      obtain ⟨rfl, rfl, rfl⟩ := hcs
      exact ⟨[], by omega, ⟨fun h => absurd h (by omega), fun j hj => absurd hj (by omega)⟩⟩
    · simp [Value.cells] at hcs
      obtain ⟨rfl, rfl, rfl⟩ := hcs
      have hz' : zs.length = cap1 := by simpa using hz
      unfold maxLen at hm
      exact ⟨zs, by omega, seps_of (by omega) hcell hwz⟩
  clear hA0 hval0
  refine (law_walk a0 a1 len0 cap0 len1 cap1 ws ss W hl0 hl1 hW0 hS1 hz0).mono fun e W' ⟨he, bel⟩ => ?_
  subst he
  exact ⟨_, rfl, _, _, _, [], p0 ++ p1, [], hW', trodAll_mk1 (shut_bool Yba.underlying4 _), (trodAll_mk2 (Below.trod laidOut (by kernel_rfl) (of_decide_eq_true (by kernel_rfl)) k0 bel lt0) (Below.trod laidOut (by kernel_rfl) (of_decide_eq_true (by kernel_rfl)) k1 bel lt1)), rfl, bel.frame _, fun h => by cases h⟩

theorem over : Rows.lawS1928CRoundTripRow.holds Yba.pinned (OpenSpec.ofChange Rows.lawS1928CRoundTripSpec) :=
  OpenClaim.holds_of_wide 3 Yba.f3 rfl rfl rfl rfl rfl rfl rfl ⟨rfl, rfl, rfl, rfl, rfl⟩ rfl rfl rfl rfl rfl (by kernel_rfl) Yba.func3 (by kernel_rfl)
    (of_decide_eq_true (by kernel_rfl)) (by unfold Func.isWrapper; first | (rw [if_pos (by decide +kernel)]; kernel_rfl) | (rw [if_neg (by decide +kernel)]; exact ⟨rfl, rfl⟩))
    (fun os started H enc _ => lifted os started H enc)

/-- THE STATEMENT -/
theorem proved : Rows.LawS1928CRoundTripSaid := over
#print axioms proved
end Go.Proofs.Ybulkamxe.lawS1928CRoundTrip
