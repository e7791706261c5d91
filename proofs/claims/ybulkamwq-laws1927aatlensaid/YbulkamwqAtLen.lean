/-
  THE WALK over LawS1927AAtLen.
-/
import Derived.Test.YbulkamwqRowIn
namespace Go.Proofs.Ybulkamwq
open Go.RowKit

set_option maxRecDepth 100000 in
set_option maxHeartbeats 800000 in
theorem atlen_walk (a0 : Option Addr) (len cap : Nat) (zs : List Int) (w : World) (hl : len ≤ 9223372036854775807) (h : RowIn w a0 len zs) :
    Calls Yba.prog 4 #[.slice a0 len cap] w fun e w' => e = .returned (.bool true) ∧ Below w.heap.size w w' := by
  by_cases h24 : 1024 < len
  · go_enter Yba.func4, Yba.ntmps4
    go_wp2
    go_ret
    exact ⟨rfl, Below.refl _ _⟩
  · go_enter Yba.func4, Yba.ntmps4
    go_wp2
    go_loopw [4] (fun i wr => ∃ (k : Nat) (cv mv : Value), k ≤ len ∧ i = .int .i64 k ∧ Off wr w.heap.size (upTo amap zs k) cv mv ∧ Below w.heap.size w wr) (fun i _ => len - (intOf i).toNat)
    case atStart => exact ⟨0, _, _, Nat.zero_le _, rfl, off_zero w, (Below.refl _ _).alloc (Nat.le_refl _) _⟩
    case round =>
      obtain ⟨k, cv, mv, hk, rfl, ho, hbel⟩ := hrel
      have hlz := h.le
      by_cases hlt : k < len
      · obtain ⟨b, off, rfl, hb, hc⟩ := h.at' (by omega)
        have hfit := h.fit k hlt
        have hcx := (hbel.cell (p := ⟨b, off + k, none⟩) hb).trans (hc k hlt)
        have hsu := upTo_succ amap zs k (by omega)
        have hul := upTo_len amap zs k (by omega)
        obtain ⟨x, hx⟩ : ∃ x, x = zs.getD k 0 := ⟨_, rfl⟩
        rw [← hx] at hfit hcx hsu
        have hbd := amap_bd x hfit.1 hfit.2
        have CA := oapp_any w.heap.size (amap x) (upTo amap zs k) cv mv wr ho (by omega) hbd.1 hbd.2
        rw [← hsu] at CA
        have CM := amap_any x hfit.1 hfit.2 wr
        clear hc hx hsu ho
        go_wp2_with fail
        refine CM.mono ?_
        rintro e w1 ⟨rfl, rfl⟩
        clear CM
        go_wp2_with fail
        refine CA.mono ?_
        rintro e w1 ⟨rfl, cv1, mv1, ho1, hb1⟩
        clear CA
        have CL := olen_any w.heap.size ((k : Int) + 1) w1 (by have := ho1.blk; rw [upTo_len amap zs (k + 1) (by omega)] at this; simp [World.cell?, this])
        go_wp2_with fail
        refine CL.mono ?_
        rintro e w2 ⟨rfl, rfl⟩
        clear CL
        go_wp2
        go_roundw
        case rel => exact ⟨k + 1, cv1, mv1, by omega, by go_num, ho1, hbel.trans hb1⟩
        case measure => simp [intOf]; omega
      · obtain rfl : k = len := by omega
        go_wp2
        go_loopw [5] (fun i wr => ∃ (j : Nat) (cv mv : Value), j ≤ k ∧ i = .int .i64 j ∧ Off wr w.heap.size (upTo amap zs k) cv mv ∧ Below w.heap.size w wr) (fun i _ => k - (intOf i).toNat)
        case atStart => exact ⟨0, cv, mv, Nat.zero_le _, rfl, ho, hbel⟩
        case round =>
          clear ho hbel
          obtain ⟨j, cv, mv, hj, rfl, ho, hbel⟩ := hrel
          by_cases hlt : j < k
          · obtain ⟨b, off, rfl, hb, hc⟩ := h.at' (by omega)
            have hfit := h.fit j hlt
            have hcx := (hbel.cell (p := ⟨b, off + j, none⟩) hb).trans (hc j hlt)
            have CT := fun n => oat_any w.heap.size j (upTo amap zs k) cv mv (wr.drewN n) (ho.drewN n) (by rw [upTo_len amap zs k (by omega)]; omega) (by rw [upTo_len amap zs k (by omega)]; omega)
            rw [upTo_getD amap zs k j hlt (by omega)] at CT
            obtain ⟨x, hx⟩ : ∃ x, x = zs.getD j 0 := ⟨_, rfl⟩
            rw [← hx] at hfit hcx CT
            have CM := fun n => amap_any x hfit.1 hfit.2 (wr.drewN n)
            clear hc hx
            go_wp2
            go_quiet ((first | (go_at_call 10; exact Calls.quiet_of_same ((CT _).mono fun _ _ ⟨a, b⟩ => ⟨a, b.symm⟩)) | (go_at_call 8; exact Calls.quiet_of_same ((CM _).mono fun _ _ ⟨a, b⟩ => ⟨a, b.symm⟩))))
            go_wp2
            go_roundw
            case rel => exact ⟨j + 1, cv, mv, by omega, by go_num, ho.drewN _, below_drewN hbel _⟩
            case measure => simp [intOf]; omega
          · go_wp2
            go_ret
            exact ⟨rfl, hbel⟩
end Go.Proofs.Ybulkamwq
