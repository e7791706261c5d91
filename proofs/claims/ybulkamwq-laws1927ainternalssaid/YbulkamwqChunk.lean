/-
  List[uint32].Append, said of the list that it holds.
-/
import Derived.Test.YbulkamwqFirst
namespace Go.Proofs.Ybulkamwq
open Go.RowKit

/-- The value in the field 'chunks' holds the numbers zs: nothing yet, or one chunk. -/
def ChunkOf (w : World) (base : Nat) (cv : Value) (zs : List Int) : Prop :=
  (zs = [] ∧ cv = .slice none 0 0) ∨
  ∃ g0 c0 g c, 0 < zs.length ∧ cv = .slice (some ⟨g0, 0, none⟩) 1 c0 ∧ w.ownsRow base 32 1 (.slice (some ⟨g0, 0, none⟩) 1 c0) 1 [.slice (some ⟨g, 0, none⟩) zs.length c] ∧
    w.ownsRow base 33 1 (.slice (some ⟨g, 0, none⟩) zs.length c) zs.length (zs.map (Value.int .u32))

/-- An owned row's block is a row of cells. -/
theorem own_cells {w : World} {base e size n : Nat} {v : Value} {xs : List Value} (h : w.ownsRow base e size v n xs) : ∀ k, v.ownBlock = some k → ∃ cs t fr, w.heap[k]? = some (.cells cs t fr) := by
  intro k hk
  rcases h.2 with ⟨rfl, _⟩ | ⟨g, cap, cur, rfl, hb, hg, _⟩
  · simp [Value.ownBlock] at hk
  · simp [Value.ownBlock] at hk
    subst hk
    exact ⟨_, _, _, hg⟩

theorem grown_drew {w w' : World} {row : Option Nat} (h : w.drew.grownBy w' row) : w.grownBy w' row := ⟨h.os, h.tape, h.output, h.size, h.block⟩

/-- What the second half of Append leaves, said of the list. -/
theorem after_chunk {W w' : World} {B base g0 c0 n : Nat} {cvv mv : Value} {zs : List Int} {v : Int} (hB : B < base) (_hbase : base ≤ W.heap.size) (hn : zs.length = n)
    (hb : W.heap[B]? = some (.cells #[.slice (some ⟨g0, 0, none⟩) 1 c0, .int .i64 n, mv] 28 (0, 0)))
    (ho : W.ownsRow base 32 1 (.slice (some ⟨g0, 0, none⟩) 1 c0) 1 [cvv]) (hr : W.ownsRow base 33 1 cvv n (zs.map (Value.int .u32)))
    (h : After W w' B base g0 cvv n (zs.map (Value.int .u32)) v) :
    w'.heap[B]? = some (.cells #[.slice (some ⟨g0, 0, none⟩) 1 c0, .int .i64 (n + 1), mv] 28 (0, 0)) ∧ ChunkOf w' base (.slice (some ⟨g0, 0, none⟩) 1 c0) (zs ++ [v]) ∧ Keeps B W w' := by
  obtain ⟨gg, cap, w1, hown, hgrow, rfl⟩ := h
  have hg := grown_drew hgrow
  have lB : B < W.heap.size := lt_of_block hb
  have hBrow : some B ≠ cvv.ownBlock := fun e => by have := (hr.lt B e.symm).1; omega
  have hb1 : w1.heap[B]? = some (.cells #[.slice (some ⟨g0, 0, none⟩) 1 c0, .int .i64 n, mv] 28 (0, 0)) := by
    rw [hg.block B (by simp; omega) hBrow, Below.heap_alloc _ _ _ lB]
    exact hb
  have ho1 := (ho.alloc (.cells #[.int .u32 v] 33)).kept hg (rows_apart ho hr (by decide))
  have hg0B : base ≤ g0 := (ho.lt g0 rfl).1
  have hne0 : B ≠ g0 := by omega
  have hrow := own_cells hr
  have hrow1 : ∀ k, cvv.ownBlock = some k → ∃ cs t fr, (W.alloc (.cells #[.int .u32 v] 33)).heap[k]? = some (.cells cs t fr) := own_cells (hr.alloc _)
  have hk1 : Keeps B W w1 := (Keeps.alloc B W _ (by omega)).trans (Keeps.grown hg (by simp; omega) (fun k hk => by have := (hr.lt k hk).1; omega) hrow1)
  obtain ⟨cs0, t0, fr0, hc0⟩ := own_cells ho1 g0 rfl
  have hk2 := hk1.trans (Keeps.setCell B w1 (i := 0) (.slice (some ⟨gg, 0, none⟩) (n + 1) cap) hc0 (by omega))
  have hb2 : (w1.setCell ⟨g0, 0, none⟩ (.slice (some ⟨gg, 0, none⟩) (n + 1) cap)).heap[B]? = some (.cells #[.slice (some ⟨g0, 0, none⟩) 1 c0, .int .i64 n, mv] 28 (0, 0)) := by
    rw [heap_setCell_other _ _ _ _ hne0]
    exact hb1
  have hk3 := hk2.trans (Keeps.setCell B _ (i := 1) (.int .i64 (n + 1)) hb2 (Nat.le_refl _))
  refine ⟨?_, .inr ⟨g0, c0, gg, cap, by simp, rfl, ?_, ?_⟩, hk3⟩
  · have := heap_setCell_same _ B 1 _ _ (.int .i64 ((n : Int) + 1)) hb2
    simpa using this
  · have hs := (ho1.stored 0 (.slice (some ⟨gg, 0, none⟩) (n + 1) cap)).1
    have := ownsRow_setCell_below hs (a := ⟨B, 1, none⟩) hB (.int .i64 ((n : Int) + 1))
    rw [show (zs ++ [v]).length = n + 1 by simp [hn]]
    simpa using this
  · have hap : Value.ownBlock (.slice (some ⟨gg, 0, none⟩) (n + 1) cap) ≠ some g0 := by
      rcases rows_apart hown ho1 (by decide) with h | h
      · simp [Value.ownBlock] at h
      · exact h
    have hs := ownsRow_setCell_other hown (a := ⟨g0, 0, none⟩) hap (.slice (some ⟨gg, 0, none⟩) (n + 1) cap)
    have := ownsRow_setCell_below hs (a := ⟨B, 1, none⟩) hB (.int .i64 ((n : Int) + 1))
    rw [show (zs ++ [v]).length = n + 1 by simp [hn]]
    simpa using this

/-- THE CONTRACT OF Append. -/
theorem lapp_any (B base n : Nat) (v : Int) (zs : List Int) (cv mv : Value) (w : World) (hB : B < base) (hbase : base ≤ w.heap.size) (hn : zs.length = n) (hn2 : n < 1024)
    (hb : w.heap[B]? = some (.cells #[cv, .int .i64 n, mv] 28 (0, 0))) (hc : ChunkOf w base cv zs) :
    Calls Yba.prog 13 #[.pointer (some ⟨B, 0, none⟩), .int .u32 v] w fun e w' => e = .returned (.tuple #[]) ∧ ∃ cv', w'.heap[B]? = some (.cells #[cv', .int .i64 (n + 1), mv] 28 (0, 0)) ∧
      ChunkOf w' base cv' (zs ++ [v]) ∧ Keeps B w w' := by
  rcases hc with ⟨rfl, rfl⟩ | ⟨g0, c0, g, c, hpos, rfl, ho, hr⟩
  · simp at hn
    subst hn
    refine (lapp_first B base v mv w hB hbase hb).mono ?_
    rintro e w' ⟨rfl, g0, c0, W, hbW, hoW, hK, hsz, hA⟩
    obtain ⟨a, b, c⟩ := after_chunk (zs := []) hB hsz rfl hbW hoW (World.ownsRow_nil _ _ _ _) hA
    exact ⟨rfl, _, a, b, hK.trans c⟩
  · subst hn
    refine (lapp_more B g0 c0 g c zs.length base v _ w hn2 hB hbase (by simp [World.cell?, hb]) (by simp [World.cell?, hb]) (fun i => by simp [World.frozen?, hb]) ho hr).mono ?_
    rintro e w' ⟨rfl, hA⟩
    obtain ⟨a, b, c⟩ := after_chunk hB hbase rfl hb ho hr hA
    exact ⟨rfl, _, a, b, c⟩
end Go.Proofs.Ybulkamwq
