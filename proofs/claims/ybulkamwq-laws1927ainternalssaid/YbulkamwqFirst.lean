/-
  THE WALK over List[uint32].Append: the first number: the chunk is made.
-/
import Derived.Test.YbulkamwqList
namespace Go.Proofs.Ybulkamwq
open Go.RowKit
attribute [local go_sem ↓] Go.wp_at_zero Go.wp_at_succ

theorem far_cell0 {w w1 : World} {o : Obj} {row : Option Nat} (hg : (w.alloc o).grownBy w1 row) (b i : Nat) (hb : b < w.heap.size) (hne : some b ≠ row) : w1.cell? ⟨b, i, none⟩ = w.cell? ⟨b, i, none⟩ ∧ w1.frozen? ⟨b, i, none⟩ = w.frozen? ⟨b, i, none⟩ :=
  ⟨(hg.cell_far _ (by simp; omega) hne).trans (World.cell?_alloc_past _ _ _ hb), (hg.frozen_far _ (by simp; omega) hne).trans (World.frozen?_alloc_past _ _ _ hb)⟩

/-- What was there below B, and every map, is as it was. -/
def Keeps (B : Nat) (w w' : World) : Prop := Below B w w' ∧ ∀ (k : Nat) (es : Array MapEntry) (cl : Nat), w.heap[k]? = some (.map es cl) → w'.heap[k]? = some (.map es cl)

theorem Keeps.trans {B : Nat} {a b c : World} (h : Keeps B a b) (k : Keeps B b c) : Keeps B a c := ⟨h.1.trans k.1, fun i es cl e => k.2 i es cl (h.2 i es cl e)⟩

theorem Keeps.grown {B : Nat} {w w' : World} {row : Option Nat} (hg : w.grownBy w' row) (hB : B ≤ w.heap.size) (hr : ∀ k, row = some k → B ≤ k) (hm : ∀ k, row = some k → ∃ cs t fr, w.heap[k]? = some (.cells cs t fr)) : Keeps B w w' := by
  refine ⟨(Below.refl _ _).grown hg hB hr, fun k es cl e => ?_⟩
  rw [hg.block k (lt_of_block e) ?_]
  · exact e
  · intro e2
    obtain ⟨cs, t, fr, h⟩ := hm k e2.symm
    rw [h] at e
    cases e

theorem Keeps.alloc (B : Nat) (w : World) (o : Obj) (hB : B ≤ w.heap.size) : Keeps B w (w.alloc o) := Keeps.grown (row := none) (World.grownBy_alloc w o none) hB (fun _ h => by cases h) (fun _ h => by cases h)

theorem Keeps.setCell (B : Nat) (w : World) {b i : Nat} {cs : Array Value} {t : TypeId} {fr : Nat × Nat} (u : Value) (hb : w.heap[b]? = some (.cells cs t fr)) (hB : B ≤ b) : Keeps B w (w.setCell ⟨b, i, none⟩ u) := by
  refine ⟨(Below.refl _ _).setCell hB _, fun k es cl e => ?_⟩
  rw [heap_setCell_other]
  · exact e
  · rintro rfl
    rw [hb] at e
    cases e

set_option maxRecDepth 100000 in
set_option maxHeartbeats 800000 in
/-- Append, the first: the chunk is made. -/
theorem lapp_first (B base : Nat) (v : Int) (mv : Value) (w : World) (hB : B < base) (hbase : base ≤ w.heap.size)
    (hb : w.heap[B]? = some (.cells #[.slice none 0 0, .int .i64 0, mv] 28 (0, 0))) :
    Calls Yba.prog 13 #[.pointer (some ⟨B, 0, none⟩), .int .u32 v] w fun e w' => e = .returned (.tuple #[]) ∧ ∃ g0 c0 W, W.heap[B]? = some (.cells #[.slice (some ⟨g0, 0, none⟩) 1 c0, .int .i64 0, mv] 28 (0, 0)) ∧
      W.ownsRow base 32 1 (.slice (some ⟨g0, 0, none⟩) 1 c0) 1 [.slice none 0 0] ∧ Keeps B w W ∧ base ≤ W.heap.size ∧ After W w' B base g0 (.slice none 0 0) 0 [] v := by
  obtain ⟨i2, hi2, hy0, hy1, hy2⟩ := info_parts info32
  obtain ⟨i0, hi0, hz0, hz1, hz2⟩ := info_parts info33
  have lB : B < w.heap.size := lt_of_block hb
  have h0 : w.cell? ⟨B, 0, none⟩ = some (.slice none 0 0) := by simp [World.cell?, hb]
  have h1 : w.cell? ⟨B, 1, none⟩ = some (.int .i64 0) := by simp [World.cell?, hb]
  have hfB : ∀ i, w.frozen? ⟨B, i, none⟩ = false := fun i => by simp [World.frozen?, hb]
  go_enter Yba.func13, Yba.ntmps13
  go_wp2_with (at_builtin; refine wpList_append_lies _ rfl (.tmp 25) (.tmp 27) 23 rfl base 32 i2 (.slice none 0 0) 1 24 Yba.underlying23 hi2 hy0 hy1 hy2 rfl (by decide) _ 0 [] rfl (World.ownsRow_nil _ _ _ _) ⟨w.heap.size, 0, none⟩ 1 1 [.slice none 0 0] rfl rfl (cell_one_new _ _ _) (by simp [Value.oneCell']) (by omega) (by unfold maxLen; omega) (by omega) (by simp; omega) _ rfl ?_)
  intro g0 c0 w1 hown0 hgrow0 hat0 hlt0
  have hown : w1.ownsRow base 32 1 (.slice (some ⟨g0, 0, none⟩) 1 c0) 1 [.slice none 0 0] := by simpa using hown0
  have hgn : (w.alloc (.cells #[.slice none 0 0] 32)).grownBy w1 none := hgrow0
  have q0 := (far_cell0 hgn B 0 lB (by simp)).1.trans h0
  have q0f := (far_cell0 hgn B 0 lB (by simp)).2.trans (hfB 0)
  have hbW : w1.heap[B]? = some (.cells #[.slice none 0 0, .int .i64 0, mv] 28 (0, 0)) := by
    rw [hgn.block B (by simp; omega) (by simp), Below.heap_alloc _ _ _ lB]
    exact hb
  have hbW2 := heap_setCell_same w1 B 0 _ _ (.slice (some ⟨g0, 0, none⟩) 1 c0) hbW
  have hg0B : base ≤ g0 := (hown.lt g0 rfl).1
  have hownW := ownsRow_setCell_below hown (a := ⟨B, 0, none⟩) hB (.slice (some ⟨g0, 0, none⟩) 1 c0)
  have hK : Keeps B w (w1.setCell ⟨B, 0, none⟩ (.slice (some ⟨g0, 0, none⟩) 1 c0)) :=
    ((Keeps.alloc B w _ (by omega)).trans (Keeps.grown hgn (by simp; omega) (fun _ h => by cases h) (fun _ h => by cases h))).trans (Keeps.setCell B w1 _ hbW (Nat.le_refl _))
  have hsz : base ≤ (w1.setCell ⟨B, 0, none⟩ (.slice (some ⟨g0, 0, none⟩) 1 c0)).heap.size := Nat.le_trans hbase hK.1.size
  have HB : Hid ((w1.setCell ⟨B, 0, none⟩ (.slice (some ⟨g0, 0, none⟩) 1 c0)).heap[B]? = some (.cells #[.slice (some ⟨g0, 0, none⟩) 1 c0, .int .i64 0, mv] 28 (0, 0))) := by unfold Hid; simpa using hbW2
  clear hown0 hgrow0 hat0 hlt0 hown hgn hbW hbW2 hb h0 h1 hfB
  go_wp2
  generalize (w1.setCell ⟨B, 0, none⟩ (.slice (some ⟨g0, 0, none⟩) 1 c0)) = W at *
  clear q0 q0f
  have h0 : W.cell? ⟨B, 0, none⟩ = some (.slice (some ⟨g0, 0, none⟩) 1 c0) := by simp [World.cell?, HB.out]
  have h1 : W.cell? ⟨B, 1, none⟩ = some (.int .i64 0) := by simp [World.cell?, HB.out]
  have hfB : ∀ i, W.frozen? ⟨B, i, none⟩ = false := fun i => by simp [World.frozen?, HB.out]
  have h2 : W.cell? ⟨g0, 0, none⟩ = some (.slice none 0 0) := by simpa using hownW.cellAt 0 (by omega)
  have lBW := World.block_lt_of_cell? W _ h0
  have lg0 := World.block_lt_of_cell? W _ h2
  have hf0 := hownW.frozenAt 0
  have hne0 : g0 ≠ B := by omega
  have HQ : Hid (∀ w1 : World, (W.alloc (.cells #[.int .u32 v] 33)).drew.grownBy w1 none → w1.cell? ⟨g0, 0, none⟩ = some (.slice none 0 0) ∧ w1.frozen? ⟨g0, 0, none⟩ = false ∧ w1.cell? ⟨B, 1, none⟩ = some (.int .i64 0) ∧ w1.frozen? ⟨B, 1, none⟩ = false ∧ w1.cell? ⟨B, 0, none⟩ = some (.slice (some ⟨g0, 0, none⟩) 1 c0)) := by
    intro w1 hg
    have a0 := far_cell hg g0 0 lg0 (by simp)
    have a1 := far_cell hg B 1 lBW (by simp)
    exact ⟨a0.1.trans h2, a0.2.trans hf0, a1.1.trans h1, a1.2.trans (hfB 1), (far_cell hg B 0 lBW (by simp)).1.trans h0⟩
  have HO : Hid (W.ownsRow base 32 1 (.slice (some ⟨g0, 0, none⟩) 1 c0) 1 [.slice none 0 0]) := hownW
  have HK : Hid (Keeps B w W) := hK
  clear hfB hownW hK lB
  go_region_law
    ((refine step_append_lies _ (by rfl) _ _ _ (by rfl) base 33 i0 _ 1 4 Yba.underlying32 hi0 hz0 hz1 hz2 rfl (by omega) (.slice none 0 0) 0 [] (by rfl) (World.ownsRow_nil _ _ _ _)
        ⟨W.heap.size, 0, none⟩ 1 1 [.int .u32 v] (by rfl) (by rfl) (World.news_of_block (cs := #[.int .u32 v]) (t := 33) (fr := (0, 0)) (heap_alloc_new W _)) (by simp [Value.oneCell'])
        (by omega) (by unfold maxLen; omega) (by omega) (by simp; omega) (W.heap.size + 1) (by simp) ?_; intro gg cap w2 hown1 hgrow hat hlt; obtain ⟨q0, q1, q2, q3, q4⟩ := HQ.out w2 hgrow))
  all_goals (go_wp2; go_end0; exact ⟨rfl, g0, c0, W, HB.out, HO.out, HK.out, hsz, gg, cap, w2, hown1, hgrow, rfl⟩)
end Go.Proofs.Ybulkamwq
