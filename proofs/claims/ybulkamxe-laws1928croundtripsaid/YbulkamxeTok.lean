/-
  THE WALK over tokenize, on the sources that the law writes.
-/
import Derived.Test.YbulkamxeSmall
namespace Go.Proofs.Ybulkamxe
open Go.RowKit Plain

set_option maxRecDepth 100000 in
set_option maxHeartbeats 3200000 in
theorem tok_some (ps : List (Int × List Int)) (gs n cap : Nat) (w : World) (hgood : ∀ q ∈ ps, Plain.Good q) (hn : (render ps).length = n) (hn2 : n ≤ 100000000) (hps : ps.length ≤ 1024) (hgs : gs < w.heap.size)
    (hc : ∀ i, i < n → w.cell? ⟨gs, i, none⟩ = some (.int .u8 ((render ps).getD i 0))) :
    Calls Yba.prog 5 #[.slice (some ⟨gs, 0, none⟩) n cap] w fun e w' => ∃ t, e = .returned t ∧ w'.ownsRow w.heap.size 27 2 t (toks 1 ps).length (tokCells (toks 1 ps)) ∧ Below w.heap.size w w' := by
  obtain ⟨i5, hi5, hy0, hy1, hy2⟩ := info_parts info5
  obtain ⟨i27, hi27, hz0, hz1, hz2⟩ := info_parts info27
  go_enter Yba.func5, Yba.ntmps5
  go_wp2
  go_loopw [3, 4, 5] (fun t l i wr => ∃ (d : Nat) (b : Bool), Stand ps d b ∧ i = .int .i64 (pos ps d b) ∧ l = .int .i64 (lin ps d b) ∧
      wr.ownsRow w.heap.size 27 2 t (toks 1 (ps.take d)).length (tokCells (toks 1 (ps.take d))) ∧ Below w.heap.size w wr) (fun _ _ i _ => n - (intOf i).toNat)
  case atStart => exact ⟨0, false, by simp [Stand], by simp [pos, render], by simp [lin, lines], by simp [toks, tokCells]; exact World.ownsRow_nil _ _ _ _, Below.refl _ _⟩
  case round =>
    obtain ⟨d, b, hst, rfl, rfl, ho, hbel⟩ := hrel
    have hple := pos_le ps d b hst
    have hlle := lin_le ps d b
    cases b with
    | false =>
      by_cases hd : d < ps.length
      · have hlt : pos ps d false < n := by have := lt_len ps d hd; simp [pos]; omega
        have hcx := (hbel.cell (p := ⟨gs, pos ps d false, none⟩) hgs).trans (hc _ hlt)
        rw [show (render ps).getD (pos ps d false) 0 = (ps.getD d (0, [])).1 from at_sep ps d hd] at hcx
        have hsep := (hgood _ (pair_mem ps d hd)).sep
        obtain ⟨d', b', hst', hp', hl', ht'⟩ := next_sep ps d hd
        have HP : Hid (pos ps d' b' = pos ps d false + 1) := by unfold Hid; rw [hp']; simp [pos]
        have HL : Hid (lin ps d' b' = lin ps d false + nl (ps.getD d (0, [])).1) := by unfold Hid; rw [hl']; simp [lin]
        have HO : Hid (wr.ownsRow w.heap.size 27 2 u3 (toks 1 (ps.take d')).length (tokCells (toks 1 (ps.take d')))) := by unfold Hid; rw [ht']; exact ho
        clear hst ho hp' hl' ht' hc hn hgood
        obtain ⟨s, hs⟩ : ∃ s, s = (ps.getD d (0, [])).1 := ⟨_, rfl⟩
        rw [← hs] at hsep hcx HL
        clear hs
        generalize pos ps d false = P at *
        generalize lin ps d false = L at *
        rcases hsep with rfl | rfl | rfl | rfl
        · go_wp2_with (go_at_call 6; refine (space_yes 32 (by omega) _).mono ?_; rintro e w' ⟨rfl, rfl⟩)
          go_roundw
          case rel => exact ⟨d', b', hst', by rw [HP.out]; go_num, by rw [HL.out]; simp [nl], HO.out, hbel⟩
          case measure => simp [intOf]; omega
        · go_wp2_with (go_at_call 6; refine (space_yes 9 (by omega) _).mono ?_; rintro e w' ⟨rfl, rfl⟩)
          go_roundw
          case rel => exact ⟨d', b', hst', by rw [HP.out]; go_num, by rw [HL.out]; simp [nl], HO.out, hbel⟩
          case measure => simp [intOf]; omega
        · go_wp2_with (go_at_call 6; refine (space_yes 13 (by omega) _).mono ?_; rintro e w' ⟨rfl, rfl⟩)
          go_roundw
          case rel => exact ⟨d', b', hst', by rw [HP.out]; go_num, by rw [HL.out]; simp [nl], HO.out, hbel⟩
          case measure => simp [intOf]; omega
        · go_wp2
          go_roundw
          case rel => exact ⟨d', b', hst', by rw [HP.out]; go_num, by rw [HL.out]; simp [nl], HO.out, hbel⟩
          case measure => simp [intOf]; omega
      · have hdl : d = ps.length := by simp [Stand] at hst; omega
        have HO : Hid (wr.ownsRow w.heap.size 27 2 u3 (toks 1 ps).length (tokCells (toks 1 ps))) := by
          unfold Hid
          rw [hdl, List.take_length] at ho
          exact ho
        have hpe : n ≤ pos ps d false := by rw [hdl, pos_end, hn]; omega
        clear hst ho hc hn hgood hdl hd
        generalize pos ps d false = P at *
        generalize lin ps d false = L at *
        go_wp2
        go_ret
        exact ⟨_, rfl, HO.out, hbel⟩
    | true =>
      obtain ⟨hd, hp⟩ : d < ps.length ∧ (ps.getD d (0, [])).2 ≠ [] := by simpa [Stand] using hst
      have hq := hgood _ (pair_mem ps d hd)
      obtain ⟨hst', hp', hl', ht'⟩ := next_word ps d hd hp
      have hend := end_len ps d hd
      have hple2 := take_len_le ps (d + 1)
      have hf := first_byte hq hp
      have hPd : pos ps d true = (render (ps.take d)).length + 1 := by simp [pos]
      have HW : Hid (∀ i, i < (esc (ps.getD d (0, [])).2).length → w.cell? ⟨gs, pos ps d true + i, none⟩ = some (.int .u8 ((esc (ps.getD d (0, [])).2).getD i 0))) := fun i hi => by
        rw [hPd, hc _ (by omega), at_word ps d hd i hi]
      have HE : Hid (pos ps d true + (esc (ps.getD d (0, [])).2).length = n ∨ (pos ps d true + (esc (ps.getD d (0, [])).2).length < n ∧ ∃ s, (s = 32 ∨ s = 9 ∨ s = 13 ∨ s = 10) ∧ w.cell? ⟨gs, pos ps d true + (esc (ps.getD d (0, [])).2).length, none⟩ = some (.int .u8 s))) := by
        unfold Hid
        rw [hPd, ← hend]
        by_cases hl : d + 1 < ps.length
        · right
          have := lt_len ps (d + 1) hl
          exact ⟨by omega, _, (hgood _ (pair_mem ps (d + 1) hl)).sep, by rw [hc _ (by omega), at_sep ps (d + 1) hl]⟩
        · left
          rw [show d + 1 = ps.length by omega, List.take_length]
          exact hn
      have HP : Hid (pos ps (d + 1) false = pos ps d true + (esc (ps.getD d (0, [])).2).length) := by unfold Hid; rw [hp', hPd]
      have HL : Hid (lin ps (d + 1) false = lin ps d true) := hl'
      have HT : Hid (toks 1 (ps.take (d + 1)) = toks 1 (ps.take d) ++ [((ps.getD d (0, [])).2, lin ps d true)]) := ht'
      have htl : (toks 1 (ps.take d)).length ≤ 1024 := by
        have h1 := toks_le (ps.take d) 1
        have h2 : (ps.take d).length ≤ ps.length := List.length_take_le' _ _
        omega
      have hinn : pos ps d true + (esc (ps.getD d (0, [])).2).length ≤ n := by omega
      have hchars := hq.chars
      have hlast := hq.last
      clear hst hc hn hgood hp' hl' ht' hend hple2 hPd hq
      generalize (ps.getD d (0, [])).2 = p at *
      generalize toks 1 (ps.take d) = ts at *
      generalize pos ps d true = P at *
      generalize lin ps d true = L at *
      have hel := esc_len p
      have hpn : p.length ≤ 100000000 := by omega
      have hp0 : 0 < p.length := by cases p with | nil => exact absurd rfl hp | cons => simp
      have hcx := (hbel.cell (p := ⟨gs, P, none⟩) hgs).trans (HW.out 0 (by omega))
      obtain ⟨c0, hc0⟩ : ∃ c, c = (esc p).getD 0 0 := ⟨_, rfl⟩
      rw [← hc0] at hf hcx
      clear hc0
      have HC : Hid (∀ c ∈ p, c = 97 ∨ c = 98 ∨ c = 35 ∨ c = 59 ∨ c = 32 ∨ c = 9) := hchars
      have HLa : Hid (1 < p.length → p.getD (p.length - 1) 0 ≠ 59) := hlast
      clear hchars hlast hp
      have e1 : (c0 == 10) = false := by simp; omega
      have e2 : (c0 == 35) = false := by simp; omega
      have HF : Hid (c0 = 92 ∨ c0 = 97 ∨ c0 = 98 ∨ c0 = 59) := hf
      clear hf
      go_wp2_with (go_at_call 6; refine (space_no c0 (by have := HF.out; omega) _).mono ?_; rintro e w' ⟨rfl, rfl⟩)
      clear hcx e1 e2 HF
      go_loopw [5, 7] (fun i wv wr => ∃ (j : Nat), j ≤ p.length ∧ i = .int .i64 ((P + (esc (p.take j)).length : Nat) : Int) ∧ wr.ownsRow w.heap.size 5 1 wv j ((p.take j).map (Value.int .u8)) ∧
          wr.ownsRow w.heap.size 27 2 u3 ts.length (tokCells ts) ∧ Below w.heap.size w wr) (fun i _ _ => n - (intOf i).toNat)
      case atStart => exact ⟨0, Nat.zero_le _, by simp [esc], World.ownsRow_nil _ _ _ _, ho, hbel⟩
      case round =>
        clear ho hbel
        obtain ⟨j, hj, rfl, hw, ho, hbel⟩ := hrel
        have hsz := hbel.size
        by_cases hjl : j < p.length
        · have hin := esc_take_lt p j hjl
          have hsu := esc_take_succ p j hjl
          have hus := u8_snoc p j hjl
          have hcc := HC.out _ (char_mem p j hjl)
          by_cases hb : p.getD j 0 = 32 ∨ p.getD j 0 = 9
          · obtain ⟨hb0, hb1⟩ := at_blank p j hjl hb
            have hc1 := (hbel.cell (p := ⟨gs, P + (esc (p.take j)).length, none⟩) hgs).trans (HW.out _ (by have := esc1_blank hb; omega))
            have hc2 := (hbel.cell (p := ⟨gs, P + ((esc (p.take j)).length + 1), none⟩) hgs).trans (HW.out _ (by have := esc1_blank hb; omega))
            rw [hb0] at hc1
            rw [hb1, ← Nat.add_assoc] at hc2
            have HN : Hid (P + (esc (p.take (j + 1))).length = P + (esc (p.take j)).length + 2) := by unfold Hid; rw [hsu, List.length_append, esc1_blank hb]; omega
            have hlt : P + (esc (p.take j)).length + 1 < n := by have := esc1_blank hb; omega
            have HU : Hid ((p.take (j + 1)).map (Value.int .u8) = (p.take j).map (Value.int .u8) ++ [.int .u8 (p.getD j 0)]) := hus
            clear hin hsu hus hb0 hb1
            generalize p.getD j 0 = c at *
            generalize P + (esc (p.take j)).length = I at *
            have CS := fun w => space_no 92 (by omega) w
            clear hcc
            rcases hb with rfl | rfl
            all_goals
              go_wp2_with (first | (go_at_call 6; refine (CS _).mono ?_; rintro e w' ⟨rfl, rfl⟩) | (at_builtin; refine wpList_append_lies _ rfl (.tmp 86) (.tmp 91) 23 rfl w.heap.size 5 i5 (.int .u8 0) 1 1 Yba.underlying23 hi5 hy0 hy1 hy2 rfl (by decide) _ j ((p.take j).map (Value.int .u8)) rfl (hw.alloc _) ⟨wr.heap.size, 0, none⟩ 1 1 _ rfl rfl (cell_one_new _ _ _) (by intro u hu; simp at hu; subst hu; rfl) (by omega) (by unfold maxLen; omega) (by omega) (by simp; omega) _ rfl ?_))
              intro g2 c2 w2 hw2 hgrow hat hg2
              have ho2 := (ho.alloc _).kept hgrow (rows_apart ho hw (by decide))
              have hbel2 := (hbel.alloc hsz _).grown hgrow (by simp; omega) (fun k hk => (hw.lt k hk).1)
              have hw3 : w2.ownsRow w.heap.size 5 1 (.slice (some ⟨g2, 0, none⟩) (j + 1) c2) (j + 1) ((p.take (j + 1)).map (Value.int .u8)) := by rw [HU.out]; simpa using hw2
              clear hw2 hgrow hat hw ho hbel CS
              go_wp2
              go_roundw
              case rel => exact ⟨j + 1, by omega, by rw [HN.out]; go_num, hw3, ho2, hbel2⟩
              case measure => simp [intOf]; omega
          · have hc1 := (hbel.cell (p := ⟨gs, P + (esc (p.take j)).length, none⟩) hgs).trans (HW.out _ (by have := esc1_plain hb; omega))
            rw [at_plain p j hjl hb] at hc1
            have HN : Hid (P + (esc (p.take (j + 1))).length = P + (esc (p.take j)).length + 1) := by unfold Hid; rw [hsu, List.length_append, esc1_plain hb]; omega
            have hlt : P + (esc (p.take j)).length < n := by have := esc1_plain hb; omega
            have HU : Hid ((p.take (j + 1)).map (Value.int .u8) = (p.take j).map (Value.int .u8) ++ [.int .u8 (p.getD j 0)]) := hus
            clear hin hsu hus
            generalize p.getD j 0 = c at *
            generalize P + (esc (p.take j)).length = I at *
            have f1 : (c != 10) = true := by simp; omega
            have f2 : (c == 92) = false := by simp; omega
            have CS := fun w => space_no c (by omega) w
            clear hcc hb
            go_wp2_with (first | (go_at_call 6; refine (CS _).mono ?_; rintro e w' ⟨rfl, rfl⟩) | (at_builtin; refine wpList_append_lies _ rfl (.tmp 86) (.tmp 91) 23 rfl w.heap.size 5 i5 (.int .u8 0) 1 1 Yba.underlying23 hi5 hy0 hy1 hy2 rfl (by decide) _ j ((p.take j).map (Value.int .u8)) rfl (hw.alloc _) ⟨wr.heap.size, 0, none⟩ 1 1 [.int .u8 c] rfl rfl (cell_one_new _ _ _) (by intro u hu; simp at hu; subst hu; rfl) (by omega) (by unfold maxLen; omega) (by omega) (by simp; omega) _ rfl ?_))
            intro g2 c2 w2 hw2 hgrow hat hg2
            have ho2 := (ho.alloc (.cells #[.int .u8 c] 5)).kept hgrow (rows_apart ho hw (by decide))
            have hbel2 := (hbel.alloc hsz (.cells #[.int .u8 c] 5)).grown hgrow (by simp; omega) (fun k hk => (hw.lt k hk).1)
            have hw3 : w2.ownsRow w.heap.size 5 1 (.slice (some ⟨g2, 0, none⟩) (j + 1) c2) (j + 1) ((p.take (j + 1)).map (Value.int .u8)) := by rw [HU.out]; simpa using hw2
            clear hw2 hgrow hat hw ho hbel CS
            go_wp2
            go_roundw
            case rel => exact ⟨j + 1, by omega, by rw [HN.out]; go_num, hw3, ho2, hbel2⟩
            case measure => simp [intOf]; omega
        · obtain rfl : j = p.length := by omega
          rw [List.take_length] at hw
          rw [List.take_length]
          obtain ⟨gw, cw, rfl, _, _⟩ := hw.form hp0
          have hcv := run_convert_bytes_arg (P := Yba.prog) wr 23 5 Yba.underlying23 Yba.underlying5 gw 0 p.length cw p rfl (fun i hi => by rw [Nat.zero_add]; exact own_byte hw i hi) 9 Yba.underlying9
          have hlc := own_byte hw (p.length - 1) (by omega)
          have hla := HLa.out
          have hE := HE.out
          have hbc := hbel.cell (p := ⟨gs, P + (esc p).length, none⟩) hgs
          have hap := rows_apart ho hw (by decide)
          have HTL : Hid (1 < p.length → (p.getD (p.length - 1) 0 == 59) = false) := fun h => by simpa using hla h
          clear hla hw hjl HW HE HC HLa hj
          generalize p.getD (p.length - 1) 0 = cl at *
          have hPE : P < P + (esc p).length := by omega
          generalize P + (esc p).length = E at *
          have hsp : ∀ s : Int, (s = 32 ∨ s = 9 ∨ s = 13 ∨ s = 10) → E < n → wr.cell? ⟨gs, E, none⟩ = some (.int .u8 s) → (isSp s = true ∨ (isSp s = false ∧ s = 10)) := fun s hs _ _ => by
            rcases hs with rfl | rfl | rfl | rfl
            · exact .inl rfl
            · exact .inl rfl
            · exact .inl rfl
            · exact .inr ⟨rfl, rfl⟩
          have HPE : Hid (P < E) := hPE
          by_cases hm : 1 < p.length
          · have hcl := HTL.out hm
            rcases hE with rfl | ⟨hEn, s, hs, hcs⟩
            · have CS := fun w => space_any 10 w
              clear hsp
              go_wp2_with (first | (go_at_call 6; refine (CS _).mono ?_; rintro e w' ⟨rfl, rfl⟩) | (at_builtin; refine wpList_append_lies _ rfl (.tmp 120) (.tmp 125) 24 rfl w.heap.size 27 i27 (.agg #[.string ⟨#[]⟩, .int .i64 0]) 2 24 Yba.underlying24 hi27 hz0 hz1 hz2 rfl (by decide) _ ts.length (tokCells ts) rfl (ho.alloc _) ⟨wr.heap.size, 0, none⟩ 1 1 [.string (strOfNums p), .int .i64 L] rfl rfl (World.news_of_block (cs := #[.string (strOfNums p), .int .i64 L]) (t := 27) (fr := (0, 0)) (heap_alloc_new wr _)) (by simp [Value.oneCell']) (by omega) (by unfold maxLen; omega) (by omega) (by simp; omega) _ rfl ?_))
              intro g2 c2 w2 hw2 hgrow hat hg2
              have ho3 : w2.ownsRow w.heap.size 27 2 (.slice (some ⟨g2, 0, none⟩) (ts.length + 1) c2) (toks 1 (ps.take (d + 1))).length (tokCells (toks 1 (ps.take (d + 1)))) := by
                rw [HT.out, tokCells_snoc]
                simpa using hw2
              have hbel2 := (hbel.alloc hsz (.cells #[.string (strOfNums p), .int .i64 L] 27)).grown hgrow (by simp; omega) (fun k hk => (ho.lt k hk).1)
              clear hw2 hgrow hat ho hbel
              go_wp2
              go_roundw
              case rel => exact ⟨d + 1, false, hst', by rw [HP.out], by rw [HL.out], ho3, hbel2⟩
              case measure => simp [intOf]; omega
            · rw [← hbc] at hcs
              have CS := fun w => space_any s w
              rcases hsp s hs hEn hcs with h1 | ⟨h1, rfl⟩
              all_goals
                clear hsp hbc hs
                go_wp2_with (first | (go_at_call 6; refine (CS _).mono ?_; rintro e w' ⟨rfl, rfl⟩) | (at_builtin; refine wpList_append_lies _ rfl (.tmp 120) (.tmp 125) 24 rfl w.heap.size 27 i27 (.agg #[.string ⟨#[]⟩, .int .i64 0]) 2 24 Yba.underlying24 hi27 hz0 hz1 hz2 rfl (by decide) _ ts.length (tokCells ts) rfl (ho.alloc _) ⟨wr.heap.size, 0, none⟩ 1 1 [.string (strOfNums p), .int .i64 L] rfl rfl (World.news_of_block (cs := #[.string (strOfNums p), .int .i64 L]) (t := 27) (fr := (0, 0)) (heap_alloc_new wr _)) (by simp [Value.oneCell']) (by omega) (by unfold maxLen; omega) (by omega) (by simp; omega) _ rfl ?_))
                intro g2 c2 w2 hw2 hgrow hat hg2
                have ho3 : w2.ownsRow w.heap.size 27 2 (.slice (some ⟨g2, 0, none⟩) (ts.length + 1) c2) (toks 1 (ps.take (d + 1))).length (tokCells (toks 1 (ps.take (d + 1)))) := by
                  rw [HT.out, tokCells_snoc]
                  simpa using hw2
                have hbel2 := (hbel.alloc hsz (.cells #[.string (strOfNums p), .int .i64 L] 27)).grown hgrow (by simp; omega) (fun k hk => (ho.lt k hk).1)
                clear hw2 hgrow hat ho hbel
                go_wp2
                go_roundw
                case rel => exact ⟨d + 1, false, hst', by rw [HP.out], by rw [HL.out], ho3, hbel2⟩
                case measure => simp [intOf]; omega
          · have hm1 : p.length ≤ 1 := by omega
            clear hm
            rcases hE with rfl | ⟨hEn, s, hs, hcs⟩
            · have CS := fun w => space_any 10 w
              clear hsp
              go_wp2_with (first | (go_at_call 6; refine (CS _).mono ?_; rintro e w' ⟨rfl, rfl⟩) | (at_builtin; refine wpList_append_lies _ rfl (.tmp 120) (.tmp 125) 24 rfl w.heap.size 27 i27 (.agg #[.string ⟨#[]⟩, .int .i64 0]) 2 24 Yba.underlying24 hi27 hz0 hz1 hz2 rfl (by decide) _ ts.length (tokCells ts) rfl (ho.alloc _) ⟨wr.heap.size, 0, none⟩ 1 1 [.string (strOfNums p), .int .i64 L] rfl rfl (World.news_of_block (cs := #[.string (strOfNums p), .int .i64 L]) (t := 27) (fr := (0, 0)) (heap_alloc_new wr _)) (by simp [Value.oneCell']) (by omega) (by unfold maxLen; omega) (by omega) (by simp; omega) _ rfl ?_))
              intro g2 c2 w2 hw2 hgrow hat hg2
              have ho3 : w2.ownsRow w.heap.size 27 2 (.slice (some ⟨g2, 0, none⟩) (ts.length + 1) c2) (toks 1 (ps.take (d + 1))).length (tokCells (toks 1 (ps.take (d + 1)))) := by
                rw [HT.out, tokCells_snoc]
                simpa using hw2
              have hbel2 := (hbel.alloc hsz (.cells #[.string (strOfNums p), .int .i64 L] 27)).grown hgrow (by simp; omega) (fun k hk => (ho.lt k hk).1)
              clear hw2 hgrow hat ho hbel
              go_wp2
              go_roundw
              case rel => exact ⟨d + 1, false, hst', by rw [HP.out], by rw [HL.out], ho3, hbel2⟩
              case measure => simp [intOf]; omega
            · rw [← hbc] at hcs
              have CS := fun w => space_any s w
              rcases hsp s hs hEn hcs with h1 | ⟨h1, rfl⟩
              all_goals
                clear hsp hbc hs
                go_wp2_with (first | (go_at_call 6; refine (CS _).mono ?_; rintro e w' ⟨rfl, rfl⟩) | (at_builtin; refine wpList_append_lies _ rfl (.tmp 120) (.tmp 125) 24 rfl w.heap.size 27 i27 (.agg #[.string ⟨#[]⟩, .int .i64 0]) 2 24 Yba.underlying24 hi27 hz0 hz1 hz2 rfl (by decide) _ ts.length (tokCells ts) rfl (ho.alloc _) ⟨wr.heap.size, 0, none⟩ 1 1 [.string (strOfNums p), .int .i64 L] rfl rfl (World.news_of_block (cs := #[.string (strOfNums p), .int .i64 L]) (t := 27) (fr := (0, 0)) (heap_alloc_new wr _)) (by simp [Value.oneCell']) (by omega) (by unfold maxLen; omega) (by omega) (by simp; omega) _ rfl ?_))
                intro g2 c2 w2 hw2 hgrow hat hg2
                have ho3 : w2.ownsRow w.heap.size 27 2 (.slice (some ⟨g2, 0, none⟩) (ts.length + 1) c2) (toks 1 (ps.take (d + 1))).length (tokCells (toks 1 (ps.take (d + 1)))) := by
                  rw [HT.out, tokCells_snoc]
                  simpa using hw2
                have hbel2 := (hbel.alloc hsz (.cells #[.string (strOfNums p), .int .i64 L] 27)).grown hgrow (by simp; omega) (fun k hk => (ho.lt k hk).1)
                clear hw2 hgrow hat ho hbel
                go_wp2
                go_roundw
                case rel => exact ⟨d + 1, false, hst', by rw [HP.out], by rw [HL.out], ho3, hbel2⟩
                case measure => simp [intOf]; omega
end Go.Proofs.Ybulkamxe
