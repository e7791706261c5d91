/-
  THE WALKS over the two maps of raw numbers (zzs1927amap, zzs1927bmap).
-/
import Derived.Test.YbulkamwqRows
import Derived.WalkKit
import Derived.WalkSpells
import Derived.WalkLawsBesides
namespace Go.Proofs.Ybulkamwq
open Go.RowKit

/-- What zzs1927amap answers. -/
def amap (x : Int) : Int := if (bits BinOp.and IntKind.u64 x 7 == 0) = true then 4294967294 + x / 8 % 3 else x
/-- What zzs1927bmap answers. -/
def bmap (x : Int) : Int := if (x % 2 == 0) = true then x else 4294967293 + x / 2

theorem amap_bd (x : Int) (h0 : 0 ≤ x) (h1 : x ≤ 18446744073709551615) : 0 ≤ amap x ∧ amap x ≤ 18446744073709551615 := by
  unfold amap
  split <;> omega
theorem bmap_bd (x : Int) (h0 : 0 ≤ x) (h1 : x ≤ 18446744073709551615) : 0 ≤ bmap x ∧ bmap x ≤ 18446744073709551615 := by
  unfold bmap
  split <;> omega

theorem ret_int {k : IntKind} {a b : Int} (h : a = b) : Ending.returned (.int k a) = .returned (.int k b) := by rw [h]

set_option maxHeartbeats 400000 in
theorem amap_any (x : Int) (h0 : 0 ≤ x) (h1 : x ≤ 18446744073709551615) (w : World) :
    Calls Yba.prog 8 #[.int .u64 x] w fun e w' => e = .returned (.int .u64 (amap x)) ∧ w = w' := by
  go_enter Yba.func8, Yba.ntmps8
  go_wp2
  all_goals go_ret
  · exact ⟨ret_int (by unfold amap; rw [if_pos ‹_›]), rfl⟩
  · exact ⟨ret_int (by unfold amap; rw [if_neg (by simp [‹(bits BinOp.and IntKind.u64 x 7 == 0) = false›])]), rfl⟩

set_option maxHeartbeats 400000 in
theorem bmap_any (x : Int) (h0 : 0 ≤ x) (h1 : x ≤ 18446744073709551615) (w : World) :
    Calls Yba.prog 11 #[.int .u64 x] w fun e w' => e = .returned (.int .u64 (bmap x)) ∧ w = w' := by
  go_enter Yba.func11, Yba.ntmps11
  go_wp2
  all_goals go_ret
  · exact ⟨ret_int (by unfold bmap; rw [if_pos ‹_›]), rfl⟩
  · exact ⟨ret_int (by unfold bmap; rw [if_neg (by simp only [‹(x % 2 == 0) = false›]; simp)]), rfl⟩
end Go.Proofs.Ybulkamwq
