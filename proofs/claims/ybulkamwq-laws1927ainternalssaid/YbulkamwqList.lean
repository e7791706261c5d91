/-
  THE WALKS over List[uint32]: Len, At, Append.
-/
import Derived.Test.YbulkamwqMaps
import Derived.Deep.AppendLies
import Derived.Deep.RegionLaw
import Derived.Deep.DrawnRows
import Derived.Maps.OwnSet
namespace Go.Proofs.Ybulkamwq
open Go.RowKit
attribute [local go_sem ↓] Go.wp_at_zero Go.wp_at_succ

theorem info32 : (Yba.prog.info? 32).map (fun i => (i.zero, i.size, i.bytes)) = some (some (.slice none 0 0), 1, 24) := by kernel_rfl
theorem info33 : (Yba.prog.info? 33).map (fun i => (i.zero, i.size, i.bytes)) = some (some (.int .u32 0), 1, 4) := by kernel_rfl

/-- Two owned rows of two element types lie in two blocks. -/
theorem rows_apart {w : World} {b1 b2 e1 e2 s1 s2 n1 n2 : Nat} {v1 v2 : Value} {x1 x2 : List Value} (h1 : w.ownsRow b1 e1 s1 v1 n1 x1) (h2 : w.ownsRow b2 e2 s2 v2 n2 x2) (he : e1 ≠ e2) :
    v1.ownBlock = none ∨ v1.ownBlock ≠ v2.ownBlock := by
  rcases h1.2 with ⟨rfl, _⟩ | ⟨g, c, cur, rfl, _, hg, _⟩
  · exact .inl rfl
  · rcases h2.2 with ⟨rfl, _⟩ | ⟨g', c', cur', rfl, _, hg', _⟩
    · exact .inr (by simp [Value.ownBlock])
    · refine .inr fun e => ?_
      simp [Value.ownBlock] at e
      subst e
      rw [hg] at hg'
      simp at hg'
      exact he hg'.2

set_option maxHeartbeats 400000 in
theorem llen_any (B : Nat) (n : Int) (w : World) (h : w.cell? ⟨B, 1, none⟩ = some (.int .i64 n)) :
    Calls Yba.prog 12 #[.pointer (some ⟨B, 0, none⟩)] w fun e w' => e = .returned (.int .i64 n) ∧ w = w' := by
  go_enter Yba.func12, Yba.ntmps12
  go_wp2
  go_ret
  exact ⟨rfl, rfl⟩

set_option maxHeartbeats 400000 in
theorem lat_any (B g0 c0 g c n i : Nat) (z : Int) (w : World) (hn : n ≤ 1024) (hi : i < n) (h0 : w.cell? ⟨B, 0, none⟩ = some (.slice (some ⟨g0, 0, none⟩) 1 c0))
    (h1 : w.cell? ⟨g0, 0, none⟩ = some (.slice (some ⟨g, 0, none⟩) n c)) (h2 : w.cell? ⟨g, i, none⟩ = some (.int .u32 z)) :
    Calls Yba.prog 14 #[.pointer (some ⟨B, 0, none⟩), .int .i64 i] w fun e w' => e = .returned (.int .u32 z) ∧ w = w' := by
  have h1' : w.cell? ⟨g0, i / 65536, none⟩ = some (.slice (some ⟨g, 0, none⟩) n c) := by rw [show i / 65536 = 0 by omega]; exact h1
  have h2' : w.cell? ⟨g, i % 65536, none⟩ = some (.int .u32 z) := by rw [show i % 65536 = i by omega]; exact h2
  clear h1 h2
  go_enter Yba.func14, Yba.ntmps14
  go_wp2
  go_ret
  exact ⟨rfl, rfl⟩

/-- What a cell of another block than the grown row's reads behind the append of one new cell. -/
theorem far_cell {w w1 : World} {o : Obj} {row : Option Nat} (hg : (w.alloc o).drew.grownBy w1 row) (b i : Nat) (hb : b < w.heap.size) (hne : some b ≠ row) : w1.cell? ⟨b, i, none⟩ = w.cell? ⟨b, i, none⟩ ∧ w1.frozen? ⟨b, i, none⟩ = w.frozen? ⟨b, i, none⟩ :=
  ⟨(hg.cell_far _ (by simp; omega) hne).trans (World.cell?_alloc_past _ _ _ hb), (hg.frozen_far _ (by simp; omega) hne).trans (World.frozen?_alloc_past _ _ _ hb)⟩

/-- What the second half of Append leaves: one number is appended to the chunk's row, the chunk is stored back, the count is raised. -/
def After (W w' : World) (B base g0 : Nat) (cvv : Value) (n : Nat) (xs : List Value) (v : Int) : Prop :=
  ∃ gg cap w1, w1.ownsRow base 33 1 (.slice (some ⟨gg, 0, none⟩) (n + 1) cap) (n + 1) (xs ++ [.int .u32 v]) ∧ (W.alloc (.cells #[.int .u32 v] 33)).drew.grownBy w1 cvv.ownBlock ∧
    w' = (w1.setCell ⟨g0, 0, none⟩ (.slice (some ⟨gg, 0, none⟩) (n + 1) cap)).setCell ⟨B, 1, none⟩ (.int .i64 (n + 1))

set_option maxRecDepth 100000 in
set_option maxHeartbeats 800000 in
/-- Append, the chunk there already. -/
theorem lapp_more (B g0 c0 g c n base : Nat) (v : Int) (xs : List Value) (w : World) (hn : n < 1024) (hB : B < base) (hbase : base ≤ w.heap.size)
    (h0 : w.cell? ⟨B, 0, none⟩ = some (.slice (some ⟨g0, 0, none⟩) 1 c0)) (h1 : w.cell? ⟨B, 1, none⟩ = some (.int .i64 n)) (hfB : ∀ i, w.frozen? ⟨B, i, none⟩ = false)
    (ho : w.ownsRow base 32 1 (.slice (some ⟨g0, 0, none⟩) 1 c0) 1 [.slice (some ⟨g, 0, none⟩) n c])
    (hr : w.ownsRow base 33 1 (.slice (some ⟨g, 0, none⟩) n c) n xs) :
    Calls Yba.prog 13 #[.pointer (some ⟨B, 0, none⟩), .int .u32 v] w fun e w' => e = .returned (.tuple #[]) ∧ After w w' B base g0 (.slice (some ⟨g, 0, none⟩) n c) n xs v := by
  obtain ⟨i0, hi0, hz0, hz1, hz2⟩ := info_parts info33
  have h2 : w.cell? ⟨g0, 0, none⟩ = some (.slice (some ⟨g, 0, none⟩) n c) := by simpa using ho.cellAt 0 (by omega)
  have hne : g ≠ B := by have := (hr.lt g rfl).1; omega
  have hne0 : g0 ≠ B := by have := (ho.lt g0 rfl).1; omega
  have hq : (n : Int) / 65536 = 0 := by omega
  have hgg : g ≠ g0 := by
    intro e
    subst e
    rcases rows_apart hr ho (by decide) with h | h
    · simp [Value.ownBlock] at h
    · simp [Value.ownBlock] at h
  have lB := World.block_lt_of_cell? w _ h0
  have lg0 := World.block_lt_of_cell? w _ h2
  have hf0 := ho.frozenAt 0
  have HQ : Hid (∀ w1 : World, (w.alloc (.cells #[.int .u32 v] 33)).drew.grownBy w1 (some g) → w1.cell? ⟨g0, 0, none⟩ = some (.slice (some ⟨g, 0, none⟩) n c) ∧ w1.frozen? ⟨g0, 0, none⟩ = false ∧ w1.cell? ⟨B, 1, none⟩ = some (.int .i64 n) ∧ w1.frozen? ⟨B, 1, none⟩ = false ∧ w1.cell? ⟨B, 0, none⟩ = some (.slice (some ⟨g0, 0, none⟩) 1 c0)) := by
    intro w1 hg
    have a0 := far_cell hg g0 0 lg0 (by simpa using Ne.symm hgg)
    have a1 := far_cell hg B 1 lB (by simpa using Ne.symm hne)
    exact ⟨a0.1.trans h2, a0.2.trans hf0, a1.1.trans h1, a1.2.trans (hfB 1), (far_cell hg B 0 lB (by simpa using Ne.symm hne)).1.trans h0⟩
  clear hfB ho
  go_enter Yba.func13, Yba.ntmps13
  go_wp2_with fail
  go_region_law
    ((refine step_append_lies _ (by rfl) _ _ _ (by rfl) base 33 i0 _ 1 4 Yba.underlying32 hi0 hz0 hz1 hz2 rfl (by omega) (.slice (some ⟨g, 0, none⟩) n c) n xs (by rfl) ((hr.alloc _).drew)
        ⟨w.heap.size, 0, none⟩ 1 1 [.int .u32 v] (by rfl) (by rfl) (World.news_of_block (cs := #[.int .u32 v]) (t := 33) (fr := (0, 0)) (heap_alloc_new w _)) (by simp [Value.oneCell'])
        (by omega) (by unfold maxLen; omega) (by omega) (by simp; omega) (w.heap.size + 1) (by simp) ?_; intro gg cap w1 hown1 hgrow hat hlt; obtain ⟨q0, q1, q2, q3, q4⟩ := HQ.out w1 hgrow))
  all_goals (go_wp2; go_end0; exact ⟨rfl, gg, cap, w1, hown1, hgrow, rfl⟩)

end Go.Proofs.Ybulkamwq
