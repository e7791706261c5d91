/-
  THE WALK over LawS1927AInternals.
-/
import Derived.Test.YbulkamwqRowIn
namespace Go.Proofs.Ybulkamwq
open Go.RowKit Go.Maps

/-- What 'v, ok := l.large[i]' answers. -/
theorem Off.lookOk {w : World} {B : Nat} {vs : List Int} {cv mv : Value} (h : Off w B vs cv mv) (i : Nat) (hi : i ≤ 1024) :
    ∃ c : Int, (Instr.lookup 26 mv (.int .i64 i) true).run Yba.prog w = .ok (.tuple #[.int .u64 c, .bool (decide (4294967295 ≤ vs.getD i 0))]) w ∧ (4294967295 ≤ vs.getD i 0 → c = vs.getD i 0) := by
  have hkey := keyOf_int_mk (P := Yba.prog) (a := (i : Int)) Yba.underlying3 (WalkArith.wf_i64 (by omega))
  rcases h.large with ⟨rfl, h2⟩ | ⟨bm, D, _, rfl, hown, hm, _⟩
  · have hno : ¬ 4294967295 ≤ vs.getD i 0 := by
      by_cases hl : i < vs.length
      · have := h2 _ (getD_mem vs i hl)
        omega
      · rw [getD_past vs i (by omega)]
        omega
    refine ⟨0, ?_, fun hh => absurd hh hno⟩
    rw [decide_eq_false hno]
    exact Maps.look_nil (w := w) true keyLaw Yba.underlying26 (zero30 w) hkey
  · obtain ⟨v, ps, hrun, hv⟩ := hown.look_ok (t := 26) keyLaw Yba.underlying26 (zero30 w) (plainElem_int Yba.underlying30 (WalkArith.wf_u64 (n := 0) (by omega))) hkey
    obtain ⟨c, rfl, hc, _⟩ := plainElem_int_inv Yba.underlying30 hv
    have hh := hm.has i
    unfold ky at hh
    rw [hh] at hrun
    refine ⟨c, hrun, fun hbig => ?_⟩
    have := hm.at' i hbig
    unfold ky at this
    rw [this] at hc
    simp at hc
    exact hc.1.symm

/-- 'l.large == nil' and 'len(l.large)'. -/
theorem Off.lenLarge {w : World} {B : Nat} {vs : List Int} {cv mv : Value} (h : Off w B vs cv mv) : ∃ r : Option Nat, mv = .map r ∧ (big vs = 0 → r = none) ∧ ∀ ty, (Builtin.len_ #[26] ty #[.map r]).run Yba.prog w = .ok (.int .i64 (big vs)) w := by
  rcases h.large with ⟨rfl, h2⟩ | ⟨bm, D, _, rfl, hown, hm, hb⟩
  · refine ⟨none, rfl, fun _ => rfl, fun ty => ?_⟩
    rw [big_zero h2]
    exact Maps.len_nil Yba.underlying26 ty
  · refine ⟨some bm, rfl, fun hz => by omega, fun ty => ?_⟩
    rw [← hm.size]
    exact hown.len Yba.underlying26 ty

set_option maxRecDepth 100000 in
set_option maxHeartbeats 800000 in
theorem internals_walk (a0 : Option Addr) (len cap : Nat) (zs : List Int) (w : World) (hl : len ≤ 9223372036854775807) (h : RowIn w a0 len zs) :
    Calls Yba.prog 3 #[.slice a0 len cap] w fun e w' => e = .returned (.bool true) ∧ Below w.heap.size w w' := by
  have qM : ∀ (w : World) (r : Option Nat), (binOp .eql 26 (.map r) (.map none)).run Yba.prog w = .ok (.bool r.isNone) w := fun w r => run_eql_map_nil w _ _ _ r Yba.underlying26
  by_cases h24 : 1024 < len
  · go_enter Yba.func3, Yba.ntmps3
    go_wp2
    go_ret
    exact ⟨rfl, Below.refl _ _⟩
  · go_enter Yba.func3, Yba.ntmps3
    go_wp2
    go_loopw [4] (fun i wr => ∃ (k : Nat) (cv mv : Value), k ≤ len ∧ i = .int .i64 k ∧ Off wr w.heap.size (upTo amap zs k) cv mv ∧ Below w.heap.size w wr) (fun i _ => len - (intOf i).toNat)
    case atStart => exact ⟨0, _, _, Nat.zero_le _, rfl, off_zero w, (Below.refl _ _).alloc (Nat.le_refl _) _⟩
    case round =>
      obtain ⟨k, cv, mv, hk, rfl, ho, hbel⟩ := hrel
      have hlz := h.le
      by_cases hlt : k < len
      · obtain ⟨b, off, rfl, hb, hc⟩ := h.at' (by omega)
        have hfit := h.fit k hlt
        have hcx := (hbel.cell (p := ⟨b, off + k, none⟩) hb).trans (hc k hlt)
        have hsu := upTo_succ amap zs k (by omega)
        have hul := upTo_len amap zs k (by omega)
        obtain ⟨x, hx⟩ : ∃ x, x = zs.getD k 0 := ⟨_, rfl⟩
        rw [← hx] at hfit hcx hsu
        have hbd := amap_bd x hfit.1 hfit.2
        have CA := oapp_any w.heap.size (amap x) (upTo amap zs k) cv mv wr ho (by omega) hbd.1 hbd.2
        rw [← hsu] at CA
        have CM := amap_any x hfit.1 hfit.2 wr
        clear hc hx hsu ho
        go_wp2_with fail
        refine CM.mono ?_
        rintro e w1 ⟨rfl, rfl⟩
        clear CM
        go_wp2_with fail
        refine CA.mono ?_
        rintro e w1 ⟨rfl, cv1, mv1, ho1, hb1⟩
        clear CA
        go_wp2
        go_roundw
        case rel => exact ⟨k + 1, cv1, mv1, by omega, by go_num, ho1, hbel.trans hb1⟩
        case measure => simp [intOf]; omega
      · obtain rfl : k = len := by omega
        have hul := upTo_len amap zs k (by omega)
        have hblk := ho.blk
        rw [hul] at hblk
        have hc1 : wr.cell? ⟨w.heap.size, 1, none⟩ = some (.int .i64 k) := by simp [World.cell?, hblk]
        have hc2 : wr.cell? ⟨w.heap.size, 2, none⟩ = some mv := by simp [World.cell?, hblk]
        by_cases hk0 : k = 0
        · obtain ⟨r, hr, hrn, _⟩ := ho.lenLarge
          have hrn' : r = none := hrn (by subst hk0; simp [upTo, big])
          subst hrn' hr
          clear hblk ho hul hrn
          go_wp2
          go_ret
          exact ⟨rfl, hbel⟩
        · obtain ⟨g0, c0, g, c, hcv, hd0, hd1, hd2⟩ := ho.cells (by rw [hul]; omega)
          rw [hul] at hd1 hd2
          have hk0' : ((k : Int) == 0) = false := by simp; omega
          have hkpos : 0 < k := by omega
          have hb0 : big (upTo amap zs 0) = 0 := by simp [upTo, big]
          have HL := fun j (hj : j ≤ 1024) => ho.lookOk j hj
          have hbs : ∀ j, j < k → big (upTo amap zs (j + 1)) = big (upTo amap zs j) + if 4294967295 ≤ amap (zs.getD j 0) then 1 else 0 := fun j hj => by
            rw [upTo_succ amap zs j (by omega), big_snoc]
          have hbl : ∀ j, j ≤ k → big (upTo amap zs j) ≤ j := fun j hj => by
            have h1 := List.length_filter_le (fun v => decide (4294967295 ≤ v)) (upTo amap zs j)
            rw [upTo_len amap zs j (by omega)] at h1
            exact h1
          have HGD : Hid (∀ j, j < k → (upTo amap zs k).getD j 0 = amap (zs.getD j 0)) := fun j hj => upTo_getD amap zs k j hj (by omega)
          have HBS : Hid (∀ j, j < k → big (upTo amap zs (j + 1)) = big (upTo amap zs j) + if 4294967295 ≤ amap (zs.getD j 0) then 1 else 0) := hbs
          have HBL : Hid (∀ j, j ≤ k → big (upTo amap zs j) ≤ j) := hbl
          have HLK : Hid (∀ j : Nat, j ≤ 1024 → ∃ c : Int, (Instr.lookup 26 mv (.int .i64 j) true).run Yba.prog wr = .ok (.tuple #[.int .u64 c, .bool (decide (4294967295 ≤ (upTo amap zs k).getD j 0))]) wr ∧ (4294967295 ≤ (upTo amap zs k).getD j 0 → c = (upTo amap zs k).getD j 0)) := HL
          have HD2 : Hid (∀ i, i < k → wr.cell? ⟨g, i, none⟩ = some (.int .u32 (sm ((upTo amap zs k).getD i 0)))) := hd2
          have HH : Hid (RowIn w a0 k zs) := h
          clear hbs hbl HL hd2 hblk hul hk0
          go_wp2
          go_loop [5, 6] (fun nl i => ∃ j : Nat, j ≤ k ∧ i = .int .i64 j ∧ nl = .int .i64 (big (upTo amap zs j) : Nat)) (fun _ i => k - (intOf i).toNat)
          case atStart => exact ⟨0, Nat.zero_le _, rfl, by rw [hb0]; rfl⟩
          case round =>
            obtain ⟨j, hj, rfl, rfl⟩ := hrel
            have hbj := HBL.out j hj
            by_cases hlt : j < k
            · obtain ⟨b, off, rfl, hb, hc⟩ := HH.out.at' (by omega)
              have hfit := HH.out.fit j hlt
              have hcx := (hbel.cell (p := ⟨b, off + j, none⟩) hb).trans (hc j hlt)
              obtain ⟨q, hrun, hq⟩ := HLK.out j (by omega)
              have hd2 := HD2.out j hlt
              have hbs := HBS.out j hlt
              rw [HGD.out j hlt] at hrun hq hd2
              obtain ⟨x, hx⟩ : ∃ x, x = zs.getD j 0 := ⟨_, rfl⟩
              rw [← hx] at hfit hcx hrun hq hd2 hbs
              have CM := amap_any x hfit.1 hfit.2 wr
              have hbd := amap_bd x hfit.1 hfit.2
              have HB1 : Hid (big (upTo amap zs (j + 1)) = big (upTo amap zs j) + if 4294967295 ≤ amap x then 1 else 0) := hbs
              clear hc hx hbs ho
              generalize amap x = v at *
              generalize big (upTo amap zs j) = N at *
              by_cases hbig : 4294967295 ≤ v
              · obtain rfl := hq hbig
                rw [decide_eq_true hbig] at hrun
                rw [show sm q = 4294967295 from if_neg (by omega)] at hd2
                go_wp2_with (go_at_call 8; refine CM.mono ?_; rintro e w1 ⟨rfl, rfl⟩)
                go_round
                case rel => exact ⟨j + 1, by omega, by go_num, by rw [HB1.out, if_pos hbig]; go_num⟩
                case measure => simp [intOf]; omega
              · rw [decide_eq_false hbig] at hrun
                rw [show sm v = v from if_pos (by omega)] at hd2
                go_wp2_with (go_at_call 8; refine CM.mono ?_; rintro e w1 ⟨rfl, rfl⟩)
                go_round
                case rel => exact ⟨j + 1, by omega, by go_num, by rw [HB1.out, if_neg (by omega)]; rfl⟩
                case measure => simp [intOf]; omega
            · obtain rfl : j = k := by omega
              obtain ⟨r, rfl, hrn, hlen⟩ := ho.lenLarge
              by_cases hz : big (upTo amap zs j) = 0
              · obtain rfl := hrn hz
                clear hrn hlen ho
                rw [hz]
                go_wp2
                go_ret
                exact ⟨rfl, hbel⟩
              · have hz' : ((big (upTo amap zs j) : Int) == 0) = false := by simp; omega
                generalize big (upTo amap zs j) = N at *
                clear hrn ho
                go_wp2
                go_ret
                exact ⟨rfl, hbel⟩
end Go.Proofs.Ybulkamwq
