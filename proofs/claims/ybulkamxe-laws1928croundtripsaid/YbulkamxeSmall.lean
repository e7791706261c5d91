/-
  THE WALKS over zzs1928calpha, isSpace.
-/
import Derived.Test.YbulkamxeRows
import Derived.Test.YbulkamxePlain
import Derived.WalkKit
import Derived.WalkSpells
import Derived.WalkLawsBesides
import Derived.Deep.AppendLies
import Derived.Deep.QuietTactic
import Derived.BigQuiet
import Derived.OpenShut
import Derived.Laws.BytesArg
namespace Go.Proofs.Ybulkamxe
open Go.RowKit Plain

theorem ret_u8 {a b : Int} (h : a = b) : Ending.returned (.int .u8 a) = .returned (.int .u8 b) := by rw [h]

set_option maxHeartbeats 400000 in
theorem alph_any (k : Int) (h0 : 0 ≤ k) (h1 : k ≤ 5) (w : World) : Calls Yba.prog 4 #[.int .i64 k] w fun e w' => e = .returned (.int .u8 (alph k)) ∧ w = w' := by
  have hk : k = 0 ∨ k = 1 ∨ k = 2 ∨ k = 3 ∨ k = 4 ∨ k = 5 := by omega
  rcases hk with rfl | rfl | rfl | rfl | rfl | rfl
  all_goals
    go_enter Yba.func4, Yba.ntmps4
    go_wp2
    go_ret
    exact ⟨rfl, rfl⟩

set_option maxHeartbeats 400000 in
theorem space_yes (c : Int) (h : c = 32 ∨ c = 9 ∨ c = 13) (w : World) : Calls Yba.prog 6 #[.int .u8 c] w fun e w' => e = .returned (.bool true) ∧ w = w' := by
  rcases h with rfl | rfl | rfl
  all_goals
    go_enter Yba.func6, Yba.ntmps6
    go_wp2
    go_ret
    exact ⟨rfl, rfl⟩

set_option maxHeartbeats 400000 in
theorem space_no (c : Int) (h : ¬ (c = 32 ∨ c = 9 ∨ c = 13)) (w : World) : Calls Yba.prog 6 #[.int .u8 c] w fun e w' => e = .returned (.bool false) ∧ w = w' := by
  have h1 : (c == 32) = false := by simp; omega
  have h2 : (c == 9) = false := by simp; omega
  have h3 : (c == 13) = false := by simp; omega
  clear h
  go_enter Yba.func6, Yba.ntmps6
  go_wp2
  go_ret
  exact ⟨rfl, rfl⟩

/-- Does the byte separate words on a line? -/
def isSp (c : Int) : Bool := decide (c = 32 ∨ c = 9 ∨ c = 13)
theorem space_any (c : Int) (w : World) : Calls Yba.prog 6 #[.int .u8 c] w fun e w' => e = .returned (.bool (isSp c)) ∧ w = w' := by
  by_cases h : c = 32 ∨ c = 9 ∨ c = 13
  · rw [show isSp c = true from decide_eq_true h]
    exact space_yes c h w
  · rw [show isSp c = false from decide_eq_false h]
    exact space_no c h w

theorem info5 : (Yba.prog.info? 5).map (fun i => (i.zero, i.size, i.bytes)) = some (some (.int .u8 0), 1, 1) := by kernel_rfl
theorem info27 : (Yba.prog.info? 27).map (fun i => (i.zero, i.size, i.bytes)) = some (some (.agg #[.string ⟨#[]⟩, .int .i64 0]), 2, 24) := by kernel_rfl

/-- Tokens in memory. -/
def tokCells (ts : List (List Int × Nat)) : List Value := ts.flatMap fun t => [.string (strOfNums t.1), .int .i64 t.2]
theorem tokCells_snoc (ts : List (List Int × Nat)) (t : List Int × Nat) : tokCells (ts ++ [t]) = tokCells ts ++ [.string (strOfNums t.1), .int .i64 t.2] := by simp [tokCells]
theorem tokCells_len (ts : List (List Int × Nat)) : (tokCells ts).length = ts.length * 2 := by
  induction ts with
  | nil => rfl
  | cons t r ih =>
    have e : tokCells (t :: r) = [.string (strOfNums t.1), .int .i64 t.2] ++ tokCells r := by simp [tokCells]
    rw [e]
    simp only [List.length_append, List.length_cons, List.length_nil, ih]
    omega

/-- Two owned rows of two element types lie in two blocks. -/
theorem rows_apart {w : World} {b1 b2 e1 e2 s1 s2 n1 n2 : Nat} {v1 v2 : Value} {x1 x2 : List Value} (h1 : w.ownsRow b1 e1 s1 v1 n1 x1) (h2 : w.ownsRow b2 e2 s2 v2 n2 x2) (he : e1 ≠ e2) :
    v1.ownBlock = none ∨ v1.ownBlock ≠ v2.ownBlock := by
  rcases h1.2 with ⟨rfl, _⟩ | ⟨g, c, cur, rfl, _, hg, _⟩
  · exact .inl rfl
  · rcases h2.2 with ⟨rfl, _⟩ | ⟨g', c', cur', rfl, _, hg', _⟩
    · exact .inr (by simp [Value.ownBlock])
    · refine .inr fun e => ?_
      simp [Value.ownBlock] at e
      subst e
      rw [hg] at hg'
      simp at hg'
      exact he hg'.2

theorem u8_snoc (p : List Int) (j : Nat) (h : j < p.length) : (p.take (j + 1)).map (Value.int .u8) = (p.take j).map (Value.int .u8) ++ [.int .u8 (p.getD j 0)] := by
  rw [List.take_succ_eq_append_getElem h, List.map_append]
  simp only [List.map_cons, List.map_nil, List.getD, List.getElem?_eq_getElem h, Option.getD_some]

theorem own_byte {w : World} {base e g n c : Nat} {xs : List Int} (h : w.ownsRow base e 1 (.slice (some ⟨g, 0, none⟩) n c) n (xs.map (Value.int .u8))) (k : Nat) (hk : k < n) :
    w.cell? ⟨g, k, none⟩ = some (.int .u8 (xs.getD k 0)) := by
  rw [h.cellAt k (by omega)]
  have := h.1
  simp at this
  simp [List.getD, show k < xs.length by omega]
end Go.Proofs.Ybulkamxe
