/-
  THE WALKS over Offsets: Len, At, Append.
-/
import Derived.Test.YbulkamwqChunk
import Derived.Deep.RegionWith
namespace Go.Proofs.Ybulkamwq
open Go.RowKit Go.Maps
attribute [local go_sem ↓] Go.wp_at_zero Go.wp_at_succ

theorem keyLaw : Keyed Yba.prog 3 := int_keyed Yba.underlying3
theorem zero30 (w : World) : (zeroValue 30).run Yba.prog w = .ok (.int .u64 0) w := by kernel_rfl

set_option maxRecDepth 100000 in
set_option maxHeartbeats 800000 in
/-- Append of a large number, the map there already: as far as the List's Append. -/
theorem oapp_large (B bm n : Nat) (v : Int) (D : DataW Unit) (w : World) (Q : Ending → World → Prop) (hv : 4294967295 ≤ v) (hv2 : v ≤ 18446744073709551615) (hn : n < 1024)
    (h1 : w.cell? ⟨B, 1, none⟩ = some (.int .i64 n)) (h2 : w.cell? ⟨B, 2, none⟩ = some (.map (some bm)))
    (hown : w.ownsMap Yba.prog 3 (plainElem (H := Unit) Yba.prog 30) bm n D)
    (hC : ∀ w1, w1.ownsMap Yba.prog 3 (plainElem (H := Unit) Yba.prog 30) bm (n + 1) (D.put (.int .i64 n) (.lit (.int .u64 v))) → w.grownBy w1 (some bm) →
      Calls Yba.prog 13 #[.pointer (some ⟨B, 0, none⟩), .int .u32 4294967295] w1 fun e w' => e = .returned (.tuple #[]) ∧ Q (.returned (.tuple #[])) w') :
    Calls Yba.prog 7 #[.pointer (some ⟨B, 0, none⟩), .int .u64 v] w Q := by
  have qM : ∀ (w : World) (r : Option Nat), (binOp .eql 26 (.map r) (.map none)).run Yba.prog w = .ok (.bool r.isNone) w := fun w r => run_eql_map_nil w _ _ _ r Yba.underlying26
  obtain ⟨w1, hrun, hown1, hgrow⟩ := hown.drew.update (t := 26) (e := 30) (val := .int .u64 v) keyLaw Yba.underlying26 (by unfold maxLen; omega) (keyOf_int_mk (a := (n : Int)) Yba.underlying3 (WalkArith.wf_i64 (by omega))) (plainElem_int Yba.underlying30 (WalkArith.wf_u64 (by omega)))
  have C := hC w1 hown1 (grown_drew hgrow)
  clear hC hown hown1 hgrow
  go_enter Yba.func7, Yba.ntmps7
  go_wp2_with fail
  go_region_with (go_at_call 12; refine (llen_any B n _ ?_).mono ?_; (simp [*]); rintro e w' ⟨rfl, rfl⟩)
  all_goals
    go_wp2_with (go_at_call 13; refine C.mono ?_; rintro e w' ⟨rfl, hQ⟩)
    go_end0
    exact hQ

/-- The world in which the map has been made and stored into the field. -/
def Made (w : World) (B : Nat) : World := (w.setCell ⟨B, 2, none⟩ (.map (some w.heap.size))).alloc (.map #[] 0)

theorem made_owns (w : World) (B : Nat) : (Made w B).ownsMap Yba.prog 3 (plainElem (H := Unit) Yba.prog 30) w.heap.size 0 (.map []) := by
  have := World.ownsMap_made (H := Unit) (w.setCell ⟨B, 2, none⟩ (.map (some w.heap.size))) Yba.prog 3 (plainElem Yba.prog 30)
  rw [show (w.setCell ⟨B, 2, none⟩ (.map (some w.heap.size))).heap.size = w.heap.size by simp] at this
  exact this

theorem made_block {w : World} {B : Nat} {a b c : Value} {t : TypeId} (h : w.heap[B]? = some (.cells #[a, b, c] t (0, 0))) : (Made w B).heap[B]? = some (.cells #[a, b, .map (some w.heap.size)] t (0, 0)) := by
  unfold Made
  rw [Below.heap_alloc _ _ _ (by simpa using lt_of_block h)]
  have := heap_setCell_same w B 2 _ _ (.map (some w.heap.size)) h
  simpa using this

theorem made_keeps {w : World} {B : Nat} {a b c : Value} {t : TypeId} (h : w.heap[B]? = some (.cells #[a, b, c] t (0, 0))) : Keeps B w (Made w B) := by
  have lB := lt_of_block h
  exact (Keeps.setCell B w _ h (Nat.le_refl _)).trans (Keeps.alloc B _ _ (by simp; omega))

set_option maxRecDepth 100000 in
set_option maxHeartbeats 800000 in
/-- Append of a large number, the map not yet made. -/
theorem oapp_make (B n : Nat) (v : Int) (cv : Value) (w : World) (Q : Ending → World → Prop) (hv : 4294967295 ≤ v) (hv2 : v ≤ 18446744073709551615) (hn : n < 1024)
    (hb : w.heap[B]? = some (.cells #[cv, .int .i64 n, .map none] 28 (0, 0)))
    (hC : ∀ w1, w1.ownsMap Yba.prog 3 (plainElem (H := Unit) Yba.prog 30) w.heap.size 1 (DataW.put (.map []) (.int .i64 n) (.lit (.int .u64 v))) → (Made w B).grownBy w1 (some w.heap.size) →
      Calls Yba.prog 13 #[.pointer (some ⟨B, 0, none⟩), .int .u32 4294967295] w1 fun e w' => e = .returned (.tuple #[]) ∧ Q (.returned (.tuple #[])) w') :
    Calls Yba.prog 7 #[.pointer (some ⟨B, 0, none⟩), .int .u64 v] w Q := by
  have qM : ∀ (w : World) (r : Option Nat), (binOp .eql 26 (.map r) (.map none)).run Yba.prog w = .ok (.bool r.isNone) w := fun w r => run_eql_map_nil w _ _ _ r Yba.underlying26
  have hmm := @run_makeMap Yba.prog
  have h1 : w.cell? ⟨B, 1, none⟩ = some (.int .i64 n) := by simp [World.cell?, hb]
  have h2 : w.cell? ⟨B, 2, none⟩ = some (.map none) := by simp [World.cell?, hb]
  have hf : w.frozen? ⟨B, 2, none⟩ = false := by simp [World.frozen?, hb]
  have lB := World.block_lt_of_cell? w _ h1
  have k1 : (Made w B).cell? ⟨B, 1, none⟩ = some (.int .i64 n) := by simp [World.cell?, made_block hb]
  have k2 : (Made w B).cell? ⟨B, 2, none⟩ = some (.map (some w.heap.size)) := by simp [World.cell?, made_block hb]
  obtain ⟨w1, hrun, hown1, hgrow⟩ := (made_owns w B).drew.update (t := 26) (e := 30) (val := .int .u64 v) keyLaw Yba.underlying26 (by unfold maxLen; omega) (keyOf_int_mk (a := (n : Int)) Yba.underlying3 (WalkArith.wf_i64 (by omega))) (plainElem_int Yba.underlying30 (WalkArith.wf_u64 (by omega)))
  have C := hC w1 hown1 (grown_drew hgrow)
  clear hC hown1 hgrow hb
  go_enter Yba.func7, Yba.ntmps7
  go_wp2_with fail
  rw [show (w.setCell ⟨B, 2, none⟩ (.map (some w.heap.size))).alloc (.map #[] 0) = Made w B from rfl]
  generalize Made w B = W at *
  clear h1 h2 hf hmm
  go_region_with (go_at_call 12; refine (llen_any B n _ ?_).mono ?_; (simp [*]); rintro e w' ⟨rfl, rfl⟩)
  all_goals
    go_wp2_with (go_at_call 13; refine C.mono ?_; rintro e w' ⟨rfl, hQ⟩)
    go_end0
    exact hQ

set_option maxHeartbeats 400000 in
/-- Append of a small number. -/
theorem oapp_small (B : Nat) (v : Int) (w : World) (Q : Ending → World → Prop) (hv : 0 ≤ v) (hv2 : v < 4294967295)
    (C : Calls Yba.prog 13 #[.pointer (some ⟨B, 0, none⟩), .int .u32 v] w fun e w' => e = .returned (.tuple #[]) ∧ Q (.returned (.tuple #[])) w') :
    Calls Yba.prog 7 #[.pointer (some ⟨B, 0, none⟩), .int .u64 v] w Q := by
  go_enter Yba.func7, Yba.ntmps7
  go_wp2_with (go_at_call 13; refine C.mono ?_; rintro e w' ⟨rfl, hQ⟩)
  go_end0
  exact hQ
end Go.Proofs.Ybulkamwq
