/-
  THE WALK over tokenize at the nil slice.
-/
import Derived.Test.YbulkamxeSmall
namespace Go.Proofs.Ybulkamxe
open Go.RowKit Plain

set_option maxRecDepth 100000 in
set_option maxHeartbeats 400000 in
theorem tok_nil (ao : Option Addr) (cap : Nat) (w : World) : Calls Yba.prog 5 #[.slice ao 0 cap] w fun e w' => e = .returned (.slice none 0 0) ∧ w = w' := by
  go_enter Yba.func5, Yba.ntmps5
  go_wp2
  refine wp_loop_rounds 1 ?_
  rw [rounds_succ]
  go_wp2
  go_ret
  exact ⟨rfl, rfl⟩

theorem tokCells_at (ts : List (List Int × Nat)) : ∀ i, i < ts.length → (tokCells ts)[i * 2]? = some (.string (strOfNums (ts.getD i ([], 0)).1)) ∧ (tokCells ts)[i * 2 + 1]? = some (.int .i64 (ts.getD i ([], 0)).2) := by
  induction ts with
  | nil => intro i hi; simp at hi
  | cons t r ih =>
    intro i hi
    have e : tokCells (t :: r) = .string (strOfNums t.1) :: .int .i64 t.2 :: tokCells r := by simp [tokCells]
    rw [e]
    cases i with
    | zero => simp
    | succ i =>
      have := ih i (by simpa using hi)
      rw [show (i + 1) * 2 = i * 2 + 1 + 1 by omega]
      simpa using this

/-- An owned row that lies below B stays owned. -/
theorem own_below {w w' : World} {B base e size n : Nat} {v : Value} {xs : List Value} (h : w.ownsRow base e size v n xs) (hb : Below B w w') (hB : w.heap.size ≤ B) : w'.ownsRow base e size v n xs := by
  refine ⟨h.1, ?_⟩
  rcases h.2 with h2 | ⟨g, cap, cur, h1, h2, h3, r⟩
  · exact .inl h2
  · refine .inr ⟨g, cap, cur, h1, h2, ?_, r⟩
    rw [hb.block g (Nat.lt_of_lt_of_le (lt_of_block h3) hB)]
    exact h3

/-- What a value that owns n elements looks like. -/
theorem own_shape {w : World} {base e size n : Nat} {v : Value} {xs : List Value} (h : w.ownsRow base e size v n xs) : ∃ ao cap, v = .slice ao n cap ∧ (0 < n → ∃ g, ao = some ⟨g, 0, none⟩) := by
  rcases h.2 with ⟨rfl, rfl⟩ | ⟨g, cap, cur, rfl, _⟩
  · exact ⟨none, 0, rfl, fun h => absurd h (by omega)⟩
  · exact ⟨_, cap, rfl, fun _ => ⟨g, rfl⟩⟩
end Go.Proofs.Ybulkamxe
