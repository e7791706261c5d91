/-
  THE WALKS over LawS1927BAtAppended, LawS1927BAtInterleaved.
-/
import Derived.Test.YbulkamwqRowIn
namespace Go.Proofs.Ybulkamwq
open Go.RowKit

set_option maxRecDepth 100000 in
set_option maxHeartbeats 800000 in
theorem appended_walk (a0 : Option Addr) (len cap : Nat) (zs : List Int) (w : World) (hl : len ≤ 9223372036854775807) (h : RowIn w a0 len zs) :
    Calls Yba.prog 5 #[.slice a0 len cap] w fun e w' => e = .returned (.bool true) ∧ Below w.heap.size w w' := by
  by_cases h24 : 1024 < len
  · go_enter Yba.func5, Yba.ntmps5
    go_wp2
    go_ret
    exact ⟨rfl, Below.refl _ _⟩
  · go_enter Yba.func5, Yba.ntmps5
    go_wp2
    go_loopw [13] (fun i wr => ∃ (k : Nat) (cv mv : Value), k ≤ len ∧ i = .int .i64 k ∧ Off wr w.heap.size (upTo bmap zs k) cv mv ∧ Below w.heap.size w wr) (fun i _ => len - (intOf i).toNat)
    case atStart => exact ⟨0, _, _, Nat.zero_le _, rfl, off_zero w, (Below.refl _ _).alloc (Nat.le_refl _) _⟩
    case round =>
      obtain ⟨k, cv, mv, hk, rfl, ho, hbel⟩ := hrel
      have hlz := h.le
      by_cases hlt : k < len
      · obtain ⟨b, off, rfl, hb, hc⟩ := h.at' (by omega)
        have hfit := h.fit k hlt
        have hcx := (hbel.cell (p := ⟨b, off + k, none⟩) hb).trans (hc k hlt)
        have hsu := upTo_succ bmap zs k (by omega)
        have hul := upTo_len bmap zs k (by omega)
        obtain ⟨x, hx⟩ : ∃ x, x = zs.getD k 0 := ⟨_, rfl⟩
        rw [← hx] at hfit hcx hsu
        have hbd := bmap_bd x hfit.1 hfit.2
        have CA := oapp_any w.heap.size (bmap x) (upTo bmap zs k) cv mv wr ho (by omega) hbd.1 hbd.2
        rw [← hsu] at CA
        have CM := bmap_any x hfit.1 hfit.2 wr
        clear hc hx hsu ho
        go_wp2_with fail
        refine CM.mono ?_
        rintro e w1 ⟨rfl, rfl⟩
        clear CM
        go_wp2_with fail
        refine CA.mono ?_
        rintro e w1 ⟨rfl, cv1, mv1, ho1, hb1⟩
        clear CA
        go_wp2
        go_roundw
        case rel => exact ⟨k + 1, cv1, mv1, by omega, by go_num, ho1, hbel.trans hb1⟩
        case measure => simp [intOf]; omega
      · obtain rfl : k = len := by omega
        have CL := olen_any w.heap.size (k : Int) wr (by have := ho.blk; rw [upTo_len bmap zs k (by omega)] at this; simp [World.cell?, this])
        go_wp2_with fail
        refine CL.mono ?_
        rintro e w2 ⟨rfl, rfl⟩
        clear CL
        go_wp2
        go_loopw [27] (fun i wr => ∃ (j : Nat) (cv mv : Value), j ≤ k ∧ i = .int .i64 j ∧ Off wr w.heap.size (upTo bmap zs k) cv mv ∧ Below w.heap.size w wr) (fun i _ => k - (intOf i).toNat)
        case atStart => exact ⟨0, cv, mv, Nat.zero_le _, rfl, ho, hbel⟩
        case round =>
          clear ho hbel
          obtain ⟨j, cv, mv, hj, rfl, ho, hbel⟩ := hrel
          by_cases hlt : j < k
          · obtain ⟨b, off, rfl, hb, hc⟩ := h.at' (by omega)
            have hfit := h.fit j hlt
            have hcx := (hbel.cell (p := ⟨b, off + j, none⟩) hb).trans (hc j hlt)
            have CT := oat_any w.heap.size j (upTo bmap zs k) cv mv wr ho (by rw [upTo_len bmap zs k (by omega)]; omega) (by rw [upTo_len bmap zs k (by omega)]; omega)
            rw [upTo_getD bmap zs k j hlt (by omega)] at CT
            obtain ⟨x, hx⟩ : ∃ x, x = zs.getD j 0 := ⟨_, rfl⟩
            rw [← hx] at hfit hcx CT
            have CM := bmap_any x hfit.1 hfit.2 wr
            clear hc hx
            go_wp2_with fail
            refine CT.mono ?_
            rintro e w3 ⟨rfl, rfl⟩
            clear CT
            go_wp2_with fail
            refine CM.mono ?_
            rintro e w3 ⟨rfl, rfl⟩
            clear CM
            go_wp2
            go_roundw
            case rel => exact ⟨j + 1, cv, mv, by omega, by go_num, ho, hbel⟩
            case measure => simp [intOf]; omega
          · go_wp2
            go_ret
            exact ⟨rfl, hbel⟩

set_option maxRecDepth 100000 in
set_option maxHeartbeats 800000 in
theorem interleaved_walk (a0 : Option Addr) (len cap : Nat) (zs : List Int) (w : World) (hl : len ≤ 9223372036854775807) (h : RowIn w a0 len zs) :
    Calls Yba.prog 6 #[.slice a0 len cap] w fun e w' => e = .returned (.bool true) ∧ Below w.heap.size w w' := by
  by_cases h24 : 1024 < len
  · go_enter Yba.func6, Yba.ntmps6
    go_wp2
    go_ret
    exact ⟨rfl, Below.refl _ _⟩
  · go_enter Yba.func6, Yba.ntmps6
    go_wp2
    go_loopw [12] (fun i wr => ∃ (k : Nat) (cv mv : Value), k ≤ len ∧ i = .int .i64 k ∧ Off wr w.heap.size (upTo bmap zs k) cv mv ∧ Below w.heap.size w wr) (fun i _ => len - (intOf i).toNat)
    case atStart => exact ⟨0, _, _, Nat.zero_le _, rfl, off_zero w, (Below.refl _ _).alloc (Nat.le_refl _) _⟩
    case round =>
      obtain ⟨k, cv, mv, hk, rfl, ho, hbel⟩ := hrel
      have hlz := h.le
      by_cases hlt : k < len
      · obtain ⟨b, off, rfl, hb, hc⟩ := h.at' (by omega)
        have hfit := h.fit k hlt
        have hcx := (hbel.cell (p := ⟨b, off + k, none⟩) hb).trans (hc k hlt)
        have hsu := upTo_succ bmap zs k (by omega)
        have hul := upTo_len bmap zs k (by omega)
        have hul1 := upTo_len bmap zs (k + 1) (by omega)
        have hgk := upTo_getD bmap zs (k + 1) k (by omega) (by omega)
        have hg0 := upTo_getD bmap zs (k + 1) 0 (by omega) (by omega)
        have hfit0 := h.fit 0 (by omega)
        have hc0 : w.cell? ⟨b, off, none⟩ = some (.int .u64 (zs.getD 0 0)) := hc 0 (by omega)
        obtain ⟨x, hx⟩ : ∃ x, x = zs.getD k 0 := ⟨_, rfl⟩
        obtain ⟨y, hy⟩ : ∃ y, y = zs.getD 0 0 := ⟨_, rfl⟩
        rw [← hx] at hfit hcx hsu hgk
        rw [← hy] at hg0 hfit0 hc0
        have hbd := bmap_bd x hfit.1 hfit.2
        have CA := oapp_any w.heap.size (bmap x) (upTo bmap zs k) cv mv wr ho (by omega) hbd.1 hbd.2
        rw [← hsu] at CA
        have CM := bmap_any x hfit.1 hfit.2 wr
        have HC : Hid (∀ w1 cv1 mv1, Off w1 w.heap.size (upTo bmap zs (k + 1)) cv1 mv1 → Calls Yba.prog 10 #[.pointer (some ⟨w.heap.size, 0, none⟩), .int .i64 k] w1 fun e w' => e = .returned (.int .u64 (bmap x)) ∧ w1 = w') := fun w1 cv1 mv1 h1 => by
          have := oat_any w.heap.size k _ cv1 mv1 w1 h1 (by omega) (by omega)
          rwa [hgk] at this
        have HC0 : Hid (∀ w1 cv1 mv1, Off w1 w.heap.size (upTo bmap zs (k + 1)) cv1 mv1 → Calls Yba.prog 10 #[.pointer (some ⟨w.heap.size, 0, none⟩), .int .i64 0] w1 fun e w' => e = .returned (.int .u64 (bmap y)) ∧ w1 = w') := fun w1 cv1 mv1 h1 => by
          have := oat_any w.heap.size 0 _ cv1 mv1 w1 h1 (by omega) (by omega)
          rwa [hg0] at this
        clear hc hx hsu ho hgk hg0 hy hul hul1
        go_wp2_with fail
        refine CM.mono ?_
        rintro e w1 ⟨rfl, rfl⟩
        clear CM
        go_wp2_with fail
        refine CA.mono ?_
        rintro e w1 ⟨rfl, cv1, mv1, ho1, hb1⟩
        clear CA
        have hbel1 := hbel.trans hb1
        have hcx0 := (hbel1.cell (p := ⟨b, off, none⟩) hb).trans hc0
        have CK := HC.out w1 cv1 mv1 ho1
        go_wp2_with fail
        refine CK.mono ?_
        rintro e w2 ⟨rfl, rfl⟩
        clear CK
        have CT := fun n => HC0.out (w1.drewN n) cv1 mv1 (ho1.drewN n)
        have CN := fun n => bmap_any y hfit0.1 hfit0.2 (w1.drewN n)
        go_wp2
        go_quiet ((first | (go_at_call 10; exact Calls.quiet_of_same ((CT _).mono fun _ _ ⟨a, b⟩ => ⟨a, b.symm⟩)) | (go_at_call 11; exact Calls.quiet_of_same ((CN _).mono fun _ _ ⟨a, b⟩ => ⟨a, b.symm⟩))))
        go_wp2
        go_roundw
        case rel => exact ⟨k + 1, cv1, mv1, by omega, by go_num, ho1.drewN _, below_drewN hbel1 _⟩
        case measure => simp [intOf]; omega
      · go_wp2
        go_ret
        exact ⟨rfl, hbel⟩
end Go.Proofs.Ybulkamwq
