/-
  WHAT THE LAWS' WALKS ARE TOLD OF THEIR ARGUMENT, AND THE FIRST Offsets.
-/
import Derived.Test.YbulkamwqInv
import Derived.Deep.QuietTactic
import Derived.BigQuiet
import Derived.OpenShut
namespace Go.Proofs.Ybulkamwq
open Go.RowKit

/-- The slice that came in: where a number is read there is an array under it. -/
structure RowIn (w : World) (a : Option Addr) (len : Nat) (zs : List Int) : Prop where
  at' : 0 < len → ∃ b off, a = some ⟨b, off, none⟩ ∧ b < w.heap.size ∧ ∀ j, j < len → w.cell? ⟨b, off + j, none⟩ = some (.int .u64 (zs.getD j 0))
  fit : ∀ j, j < len → 0 ≤ zs.getD j 0 ∧ zs.getD j 0 ≤ 18446744073709551615
  le : len ≤ zs.length

/-- What has been appended after k rounds. -/
def upTo (f : Int → Int) (zs : List Int) (k : Nat) : List Int := (zs.take k).map f

theorem upTo_len (f : Int → Int) (zs : List Int) (k : Nat) (h : k ≤ zs.length) : (upTo f zs k).length = k := by simp [upTo, h]
theorem upTo_succ (f : Int → Int) (zs : List Int) (k : Nat) (h : k < zs.length) : upTo f zs (k + 1) = upTo f zs k ++ [f (zs.getD k 0)] := by
  unfold upTo
  rw [List.take_succ_eq_append_getElem h, List.map_append]
  simp [List.getD, h]
theorem upTo_getD (f : Int → Int) (zs : List Int) (k i : Nat) (hi : i < k) (h : k ≤ zs.length) : (upTo f zs k).getD i 0 = f (zs.getD i 0) := by
  have : i < zs.length := by omega
  simp [upTo, List.getD, hi, this]

/-- The zero Offsets. -/
theorem off_zero (w : World) : Off (w.alloc (.cells #[.slice none 0 0, .int .i64 0, .map none] 28)) w.heap.size [] (.slice none 0 0) (.map none) :=
  ⟨by rw [heap_alloc_new]; rfl, .inl ⟨rfl, rfl⟩, .inl ⟨rfl, fun _ h => by cases h⟩, fun _ h => by cases h⟩

theorem Off.drewN {w : World} {B : Nat} {vs : List Int} {cv mv : Value} (h : Off w B vs cv mv) (n : Nat) : Off (w.drewN n) B vs cv mv := ⟨h.blk, h.chunk, h.large, h.fit⟩

/-- Out of what the laws' frames hand the walk. -/
theorem rowIn_of {w : World} {a : Option Addr} {len cap : Nat} {zs : List Int} (h : (a = none ∧ len = 0 ∧ cap = 0 ∧ zs = []) ∨
    ∃ x, a = some x ∧ len ≤ cap ∧ cap ≤ maxLen ∧ zs.length = cap ∧ (∀ i, i < zs.length → w.cell? (x.add i) = some (.int .u64 (zs.getD i 0))) ∧ ∀ n ∈ zs, (Lit.int .u64 n).wf = true) :
    RowIn w a len zs ∧ len ≤ 9223372036854775807 := by
  rcases h with ⟨rfl, rfl, rfl, rfl⟩ | ⟨x, rfl, hl, hm, hz, hc, hw⟩
  · exact ⟨⟨fun h => absurd h (by omega), fun j hj => absurd hj (by omega), by simp⟩, by omega⟩
  · unfold maxLen at hm
    refine ⟨⟨fun h0 => ?_, fun j hj => bounds_u64 (hw _ (getD_mem zs j (by omega))), by omega⟩, by omega⟩
    obtain ⟨b, off, spot⟩ := x
    have hspot : spot = none := by simpa [Addr.add] using World.cell?_spot (hc 0 (by omega))
    subst hspot
    have hc' : ∀ j, j < len → w.cell? ⟨b, off + j, none⟩ = some (.int .u64 (zs.getD j 0)) := fun j hj => by
      have := hc j (by omega)
      rwa [Addr.add_lit] at this
    exact ⟨b, off, rfl, World.block_lt_of_cell? _ _ (hc' 0 h0), hc'⟩
end Go.Proofs.Ybulkamwq
