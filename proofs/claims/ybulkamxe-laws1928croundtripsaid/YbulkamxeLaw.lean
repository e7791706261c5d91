/-
  THE WALK over LawS1928CRoundTrip.
-/
import Derived.Test.YbulkamxeTok
import Derived.Test.YbulkamxeNil
import Derived.Test.YbulkamxeIn
import Derived.Deep.DeepCutAuto
import Derived.Deep.CutBlock
namespace Go.Proofs.Ybulkamxe
open Go.RowKit Plain

theorem raw_succ (s : ByteArray) (i : Nat) (h : i < s.size) : ((raw s).take (i + 1)).map (Value.int .u8) = ((raw s).take i).map (Value.int .u8) ++ [.int .u8 (alph ((s[i].toNat : Int) % 6))] := by
  have hl : i < (raw s).length := by rw [raw_len]; exact h
  rw [u8_snoc _ i hl]
  have e1 : s.data.toList[i]? = some s[i] := by rw [Array.getElem?_toList, Array.getElem?_eq_getElem (by simpa using h)]; rfl
  have e2 : (raw s).getD i 0 = alph ((s[i].toNat : Int) % 6) := by simp only [List.getD, raw, List.getElem?_map, e1, Option.map_some, Option.getD_some]
  rw [e2]

set_option maxRecDepth 100000 in
set_option maxHeartbeats 6400000 in
theorem law_walk (a0 a1 : Option Addr) (len cap sl scap : Nat) (ws : List ByteArray) (ss : List Int) (w : World) (hlen : len ≤ 9223372036854775807) (hsl : sl ≤ 9223372036854775807)
    (hW : WordsIn w a0 len ws) (hS : SepsIn w a1 sl ss) (hsz : ∀ j, j < len → (ws.getD j ByteArray.empty).size ≤ 9223372036854775807) :
    Calls Yba.prog 3 #[.slice a0 len cap, .slice a1 sl scap] w fun e w' => e = .returned (.bool true) ∧ Below w.heap.size w w' := by
  obtain ⟨i5, hi5, hy0, hy1, hy2⟩ := info_parts info5
  obtain ⟨i27, hi27, hz0, hz1, hz2⟩ := info_parts info27
  by_cases h24 : 1024 < len
  · go_enter Yba.func3, Yba.ntmps3
    go_wp2
    go_ret
    exact ⟨rfl, Below.refl _ _⟩
  · go_enter Yba.func3, Yba.ntmps3
    go_wp2
    go_loop [24] (fun i => ∃ k : Nat, k ≤ len ∧ i = .int .i64 k ∧ Hid (∀ j, j < k → (ws.getD j ByteArray.empty).size ≤ 1024)) (fun i => len - (intOf i).toNat)
    case atStart => exact ⟨0, Nat.zero_le _, rfl, fun j hj => by omega⟩
    case round =>
      obtain ⟨k, hk, rfl, hshort⟩ := hrel
      by_cases hlt : k < len
      · obtain ⟨b, off, rfl, hb, hc⟩ := hW.at' (by omega)
        have hcx := hc k hlt
        have hs1 := hsz k hlt
        have hss := hshort.out
        obtain ⟨s, hs⟩ : ∃ s, s = ws.getD k ByteArray.empty := ⟨_, rfl⟩
        rw [← hs] at hcx hs1
        have HS : Hid (s = ws.getD k ByteArray.empty) := hs
        clear hs hc hss
        by_cases hbig : 1024 < s.size
        · go_wp2
          go_ret
          exact ⟨rfl, Below.refl _ _⟩
        · go_wp2
          go_round
          case rel => exact ⟨k + 1, by omega, by go_num, fun j hj => by
            rcases Nat.lt_or_ge j k with h | h
            · exact hshort.out j h
            · obtain rfl : j = k := by omega
              rw [← HS.out]
              omega⟩
          case measure => simp [intOf]; omega
      · obtain rfl : k = len := by omega
        clear hsz
        go_wp2
        go_loopg [7, 8, 9, 34] k (fun gk s t l i wr => ∃ j : Nat, j + gk = k ∧ i = .int .i64 j ∧ wr.ownsRow w.heap.size 5 1 s (render (pairs ws ss sl j)).length ((render (pairs ws ss sl j)).map (Value.int .u8)) ∧
            wr.ownsRow w.heap.size 27 2 t (toks 1 (pairs ws ss sl j)).length (tokCells (toks 1 (pairs ws ss sl j))) ∧ l = .int .i64 (lines (pairs ws ss sl j)) ∧ Below w.heap.size w wr)
        case atStart => exact ⟨0, by omega, rfl, World.ownsRow_nil _ _ _ _, World.ownsRow_nil _ _ _ _, rfl, Below.refl _ _⟩
        case round =>
          obtain ⟨j, hjk, rfl, hs, ht, rfl, hbel⟩ := hrel
          by_cases hlt : j < k
          · obtain ⟨b, off, rfl, hb, hc⟩ := hW.at' (by omega)
            have hcw := (hbel.cell (p := ⟨b, off + j, none⟩) hb).trans (hc j hlt)
            have hss := hshort.out j hlt
            have hrl := render_le ws ss sl j (fun i hi => hshort.out i (by omega))
            have hpl := pairs_len ws ss sl j
            have hll := lines_le (pairs ws ss sl j)
            have htl := toks_le (pairs ws ss sl j) 1
            have hsu := pairs_succ ws ss sl j
            have hpk : 0 ≤ pick ss sl j ∧ pick ss sl j ≤ 255 := by
              unfold pick
              split
              · exact hS.fit j (by assumption)
              · omega
            have HR : Hid (render (pairs ws ss sl (j + 1)) = render (pairs ws ss sl j) ++ sepB (pick ss sl j) :: esc (plainW (ws.getD j ByteArray.empty))) := by unfold Hid; rw [hsu, render_snoc]; rfl
            have HL : Hid (lines (pairs ws ss sl (j + 1)) = lines (pairs ws ss sl j) + nl (sepB (pick ss sl j))) := by unfold Hid; rw [hsu, lines_snoc]; rfl
            have HT : Hid (toks 1 (pairs ws ss sl (j + 1)) = toks 1 (pairs ws ss sl j) ++ (if plainW (ws.getD j ByteArray.empty) = [] then [] else [(plainW (ws.getD j ByteArray.empty), lines (pairs ws ss sl j) + nl (sepB (pick ss sl j)))])) := by unfold Hid; rw [hsu, toks_snoc]; rfl
            have HPk : Hid (pick ss sl j = if j < sl then ss.getD j 0 else 0) := rfl
            clear hsu hc
            generalize ws.getD j ByteArray.empty = word at *
            generalize render (pairs ws ss sl j) = R at *
            generalize lines (pairs ws ss sl j) = L at *
            generalize toks 1 (pairs ws ss sl j) = ts at *
            generalize pick ss sl j = sp at *
            have hsz := hbel.size
            go_upto_if 42 with fail
            go_cut [12] (fun s12 wx => s12 = .int .u8 sp ∧ wr = wx)
            case first =>
              by_cases hjs : j < sl
              · obtain ⟨b2, off2, rfl, hb2, hc2⟩ := hS.at' (by omega)
                have hcs := (hbel.cell (p := ⟨b2, off2 + j, none⟩) hb2).trans (hc2 j hjs)
                have hpk2 := HPk.out
                rw [if_pos hjs] at hpk2
                rw [← hpk2] at hcs
                clear hpk2 hc2
                go_wp2
                go_meet
                exact ⟨rfl, rfl⟩
              · have hpk2 : sp = 0 := by have := HPk.out; rwa [if_neg hjs] at this
                go_wp2
                go_meet
                exact ⟨by rw [hpk2], rfl⟩
            case rest =>
              obtain ⟨rfl, rfl⟩ := hcut
              go_upto_block 4 with fail
              go_cut [7, 9, 49] (fun s7 s9 _ wx => ∃ g c, s7 = .slice (some ⟨g, 0, none⟩) (R.length + 1) c ∧ s9 = .int .i64 ((L + nl (sepB sp) : Nat) : Int) ∧
                  wx.ownsRow w.heap.size 5 1 (.slice (some ⟨g, 0, none⟩) (R.length + 1) c) (R.length + 1) ((R ++ [sepB sp]).map (Value.int .u8)) ∧ wx.ownsRow w.heap.size 27 2 u8 ts.length (tokCells ts) ∧ Below w.heap.size w wx)
              case first =>
                have hmods : sp % 4 = 0 ∨ sp % 4 = 1 ∨ sp % 4 = 2 ∨ sp % 4 = 3 := by omega
                rcases hmods with hm | hm | hm | hm
                · have hsp : sepB sp = 32 := by simp [sepB, hm]
                  go_wp2_with (at_builtin; refine wpList_append_lies _ rfl (.tmp 57) (.tmp 58) 23 rfl w.heap.size 5 i5 (.int .u8 0) 1 1 Yba.underlying23 hi5 hy0 hy1 hy2 rfl (by decide) _ R.length (R.map (Value.int .u8)) rfl (hs.alloc _) ⟨wr.heap.size, 0, none⟩ 1 1 [.int .u8 32] rfl rfl (cell_one_new _ _ _) (by intro u hu; simp at hu; subst hu; rfl) (by omega) (by unfold maxLen; omega) (by omega) (by simp; omega) _ rfl ?_)
                  intro g2 c2 w2 hs2 hgrow hat hg2
                  have ht2 := (ht.alloc (.cells #[.int .u8 32] 5)).kept hgrow (rows_apart ht hs (by decide))
                  have hbel2 := (hbel.alloc hsz (.cells #[.int .u8 32] 5)).grown hgrow (by simp; omega) (fun k hk => (hs.lt k hk).1)
                  have hs3 : w2.ownsRow w.heap.size 5 1 (.slice (some ⟨g2, 0, none⟩) (R.length + 1) c2) (R.length + 1) ((R ++ [sepB sp]).map (Value.int .u8)) := by
                    rw [hsp]
                    simpa using hs2
                  clear hs2 hgrow hat
                  go_wp2
                  go_meet
                  exact ⟨g2, c2, rfl, by rw [hsp]; simp [nl], hs3, ht2, hbel2⟩
                · have hsp : sepB sp = 9 := by simp [sepB, hm]
                  go_wp2_with (at_builtin; refine wpList_append_lies _ rfl (.tmp 62) (.tmp 63) 23 rfl w.heap.size 5 i5 (.int .u8 0) 1 1 Yba.underlying23 hi5 hy0 hy1 hy2 rfl (by decide) _ R.length (R.map (Value.int .u8)) rfl (hs.alloc _) ⟨wr.heap.size, 0, none⟩ 1 1 [.int .u8 9] rfl rfl (cell_one_new _ _ _) (by intro u hu; simp at hu; subst hu; rfl) (by omega) (by unfold maxLen; omega) (by omega) (by simp; omega) _ rfl ?_)
                  intro g2 c2 w2 hs2 hgrow hat hg2
                  have ht2 := (ht.alloc (.cells #[.int .u8 9] 5)).kept hgrow (rows_apart ht hs (by decide))
                  have hbel2 := (hbel.alloc hsz (.cells #[.int .u8 9] 5)).grown hgrow (by simp; omega) (fun k hk => (hs.lt k hk).1)
                  have hs3 : w2.ownsRow w.heap.size 5 1 (.slice (some ⟨g2, 0, none⟩) (R.length + 1) c2) (R.length + 1) ((R ++ [sepB sp]).map (Value.int .u8)) := by
                    rw [hsp]
                    simpa using hs2
                  clear hs2 hgrow hat
                  go_wp2
                  go_meet
                  exact ⟨g2, c2, rfl, by rw [hsp]; simp [nl], hs3, ht2, hbel2⟩
                · have hsp : sepB sp = 13 := by simp [sepB, hm]
                  go_wp2_with (at_builtin; refine wpList_append_lies _ rfl (.tmp 67) (.tmp 68) 23 rfl w.heap.size 5 i5 (.int .u8 0) 1 1 Yba.underlying23 hi5 hy0 hy1 hy2 rfl (by decide) _ R.length (R.map (Value.int .u8)) rfl (hs.alloc _) ⟨wr.heap.size, 0, none⟩ 1 1 [.int .u8 13] rfl rfl (cell_one_new _ _ _) (by intro u hu; simp at hu; subst hu; rfl) (by omega) (by unfold maxLen; omega) (by omega) (by simp; omega) _ rfl ?_)
                  intro g2 c2 w2 hs2 hgrow hat hg2
                  have ht2 := (ht.alloc (.cells #[.int .u8 13] 5)).kept hgrow (rows_apart ht hs (by decide))
                  have hbel2 := (hbel.alloc hsz (.cells #[.int .u8 13] 5)).grown hgrow (by simp; omega) (fun k hk => (hs.lt k hk).1)
                  have hs3 : w2.ownsRow w.heap.size 5 1 (.slice (some ⟨g2, 0, none⟩) (R.length + 1) c2) (R.length + 1) ((R ++ [sepB sp]).map (Value.int .u8)) := by
                    rw [hsp]
                    simpa using hs2
                  clear hs2 hgrow hat
                  go_wp2
                  go_meet
                  exact ⟨g2, c2, rfl, by rw [hsp]; simp [nl], hs3, ht2, hbel2⟩
                · have hsp : sepB sp = 10 := by simp [sepB, hm]
                  go_wp2_with (at_builtin; refine wpList_append_lies _ rfl (.tmp 50) (.tmp 51) 23 rfl w.heap.size 5 i5 (.int .u8 0) 1 1 Yba.underlying23 hi5 hy0 hy1 hy2 rfl (by decide) _ R.length (R.map (Value.int .u8)) rfl (hs.alloc _) ⟨wr.heap.size, 0, none⟩ 1 1 [.int .u8 10] rfl rfl (cell_one_new _ _ _) (by intro u hu; simp at hu; subst hu; rfl) (by omega) (by unfold maxLen; omega) (by omega) (by simp; omega) _ rfl ?_)
                  intro g2 c2 w2 hs2 hgrow hat hg2
                  have ht2 := (ht.alloc (.cells #[.int .u8 10] 5)).kept hgrow (rows_apart ht hs (by decide))
                  have hbel2 := (hbel.alloc hsz (.cells #[.int .u8 10] 5)).grown hgrow (by simp; omega) (fun k hk => (hs.lt k hk).1)
                  have hs3 : w2.ownsRow w.heap.size 5 1 (.slice (some ⟨g2, 0, none⟩) (R.length + 1) c2) (R.length + 1) ((R ++ [sepB sp]).map (Value.int .u8)) := by
                    rw [hsp]
                    simpa using hs2
                  clear hs2 hgrow hat
                  go_wp2
                  go_meet
                  exact ⟨g2, c2, rfl, by rw [hsp]; simp [nl], hs3, ht2, hbel2⟩
              case rest =>
                obtain ⟨g, c, rfl, rfl, hs1, ht1, hbel1⟩ := hcut
                clear hs ht hbel hsz hcw
                have hsz1 := hbel1.size
                have hL1 : L + nl (sepB sp) ≤ 2000 := by
                  have : nl (sepB sp) ≤ 1 := by unfold nl; split <;> omega
                  omega
                generalize L + nl (sepB sp) = L1 at *
                generalize sepB sp = sep at *
                go_wp2_with (at_make; refine wpList_make_own _ rfl _ _ 23 rfl w.heap.size 5 i5 (.int .u8 0) 1 Yba.underlying23 hi5 hy0 hy1 _ _ _ word.size rfl rfl (by omega) ?bytes ?maxl ?base ?_)
                case bytes => rw [hy2]; omega
                case maxl => unfold maxLen; omega
                case base => exact hsz1
                intro w3 hp3 hgrow3
                have hs3 := hs1.kept hgrow3 (.inr (by simp [Value.ownBlock]))
                have ht3 := ht1.kept hgrow3 (by cases hv : u8.ownBlock <;> simp)
                have hbel3 := hbel1.grown hgrow3 hsz1 (fun k hk => by cases hk)
                have hgp : g ≠ wc.heap.size := by have := (hs1.lt g rfl).2; omega
                clear hs1 ht1 hbel1 hgrow3 hsz1
                generalize wc.heap.size = gp at *
                go_wp2
                go_loopw [13, 14] (fun p13 i14 wq => ∃ i : Nat, i ≤ word.size ∧ i14 = .int .i64 i ∧ p13 = .slice (some ⟨gp, 0, none⟩) i word.size ∧ wq.ownsRow w.heap.size 5 1 (.slice (some ⟨gp, 0, none⟩) i word.size) i (((raw word).take i).map (Value.int .u8)) ∧
                    wq.ownsRow w.heap.size 5 1 (.slice (some ⟨g, 0, none⟩) (R.length + 1) c) (R.length + 1) ((R ++ [sep]).map (Value.int .u8)) ∧ wq.ownsRow w.heap.size 27 2 u8 ts.length (tokCells ts) ∧ Below w.heap.size w wq) (fun _ i _ => word.size - (intOf i).toNat)
                case atStart => exact ⟨0, Nat.zero_le _, rfl, rfl, hp3, hs3, ht3, hbel3⟩
                case round =>
                  clear hp3 hs3 ht3 hbel3
                  obtain ⟨i, hi, rfl, rfl, hp, hs, ht, hbel⟩ := hrel
                  have hsz := hbel.size
                  by_cases hil : i < word.size
                  · have HRS : Hid (((raw word).take (i + 1)).map (Value.int .u8) = ((raw word).take i).map (Value.int .u8) ++ [.int .u8 (alph ((word[i].toNat : Int) % 6))]) := raw_succ word i hil
                    have hby : word[i].toNat < 256 := word[i].toNat_lt
                    go_wp2_with fail
                    refine (alph_any ((word[i].toNat : Int) % 6) (by omega) (by omega) _).mono ?_
                    rintro e w' ⟨rfl, rfl⟩
                    generalize alph ((word[i].toNat : Int) % 6) = al at *
                    go_wp2_with (at_builtin; refine wpList_append_fits _ rfl (.tmp 79) (.tmp 86) 23 rfl w.heap.size 5 i5 1 Yba.underlying23 hi5 hy1 gp i word.size (((raw word).take i).map (Value.int .u8)) rfl (hp.alloc _) ⟨wr.heap.size, 0, none⟩ 1 1 [.int .u8 al] rfl rfl (cell_one_new _ _ _) (by intro u hu; simp at hu; subst hu; rfl) (by omega) ?_)
                    intro w4 hp4 hgrow4
                    have hs4 := (hs.alloc (.cells #[.int .u8 al] 5)).kept hgrow4 (.inr (by simpa [Value.ownBlock] using hgp))
                    have ht4 := (ht.alloc (.cells #[.int .u8 al] 5)).kept hgrow4 (rows_apart ht hp (by decide))
                    have hbel4 := (hbel.alloc hsz (.cells #[.int .u8 al] 5)).grown hgrow4 (by simp; omega) (fun k hk => by cases hk; exact (hp.lt gp rfl).1)
                    have hp5 : w4.ownsRow w.heap.size 5 1 (.slice (some ⟨gp, 0, none⟩) (i + 1) word.size) (i + 1) (((raw word).take (i + 1)).map (Value.int .u8)) := by rw [HRS.out]; simpa using hp4
                    clear hp4 hgrow4 hp hs ht hbel
                    go_wp2
                    go_roundw
                    case rel => exact ⟨i + 1, by omega, by go_num, rfl, hp5, hs4, ht4, hbel4⟩
                    case measure => simp [intOf]; omega
                  · obtain rfl : i = word.size := by omega
                    have hrwl := raw_len word
                    rw [List.take_of_length_le (by omega)] at hp
                    by_cases hw0 : word.size = 0
                    · have hpe : plainW word = [] := List.length_eq_zero_iff.1 (by rw [plainW_len]; exact hw0)
                      have HR2 := HR.out
                      have HT2 := HT.out
                      rw [hpe] at HR2 HT2
                      rw [if_pos rfl, List.append_nil] at HT2
                      have hs4 : wr.ownsRow w.heap.size 5 1 (.slice (some ⟨g, 0, none⟩) (R.length + 1) c) (render (pairs ws ss sl (j + 1))).length ((render (pairs ws ss sl (j + 1))).map (Value.int .u8)) := by
                        rw [HR2]
                        simpa [esc] using hs
                      have ht4 : wr.ownsRow w.heap.size 27 2 u8 (toks 1 (pairs ws ss sl (j + 1))).length (tokCells (toks 1 (pairs ws ss sl (j + 1)))) := by
                        rw [HT2]
                        exact ht
                      have hw2 : (word.size : Int) = 0 := by omega
                      clear HR2 HT2 hpe hs ht hp HR HT
                      go_wp2
                      go_roundg (gk - 1)
                      case measure => omega
                      case rel => exact ⟨j + 1, by omega, by go_num, hs4, ht4, by rw [HL.out], hbel⟩
                    · have hw1 : 0 < word.size := by omega
                      have hw2 : ((word.size : Int) == 0) = false := by rw [beq_eq_false_iff_ne]; omega
                      have hc0 := own_byte hp 0 hw1
                      have hf0 := hp.frozenAt 0
                      have hgpB : w.heap.size ≤ gp := (hp.lt gp rfl).1
                      have HF : Hid (fixFirst (raw word) = if (raw word).getD 0 0 = 35 then (raw word).set 0 97 else raw word) := rfl
                      generalize (raw word).getD 0 0 = x at *
                      go_upto_if 94 with fail
                      go_cut [] (fun wx => wx.ownsRow w.heap.size 5 1 (.slice (some ⟨gp, 0, none⟩) word.size word.size) word.size ((fixFirst (raw word)).map (Value.int .u8)) ∧
                          wx.ownsRow w.heap.size 5 1 (.slice (some ⟨g, 0, none⟩) (R.length + 1) c) (R.length + 1) ((R ++ [sep]).map (Value.int .u8)) ∧ wx.ownsRow w.heap.size 27 2 u8 ts.length (tokCells ts) ∧ Below w.heap.size w wx)
                      case first =>
                        by_cases hx : x = 35
                        · have hp2 : (wr.setCell ⟨gp, 0, none⟩ (.int .u8 97)).ownsRow w.heap.size 5 1 (.slice (some ⟨gp, 0, none⟩) word.size word.size) word.size ((fixFirst (raw word)).map (Value.int .u8)) := by
                            rw [HF.out, if_pos hx, List.map_set]
                            exact (hp.stored 0 _).1
                          have hs2 := ownsRow_setCell_other hs (a := ⟨gp, 0, none⟩) (by simpa [Value.ownBlock] using hgp) (.int .u8 97)
                          have hta : u8.ownBlock ≠ some gp := by
                            rcases rows_apart ht hp (by decide) with h | h
                            · rw [h]; simp
                            · exact h
                          have ht2 := ownsRow_setCell_other ht (a := ⟨gp, 0, none⟩) hta (.int .u8 97)
                          have hbel2 := hbel.setCell (p := ⟨gp, 0, none⟩) hgpB (.int .u8 97)
                          subst hx
                          clear hp hs ht hbel HF
                          go_wp2
                          go_meet
                          exact ⟨hp2, hs2, ht2, hbel2⟩
                        · have hx2 : (x == 35) = false := by rw [beq_eq_false_iff_ne]; exact hx
                          rw [show raw word = fixFirst (raw word) by rw [HF.out, if_neg hx]] at hp
                          clear HF
                          go_wp2
                          go_meet
                          exact ⟨hp, hs, ht, hbel⟩
                      case rest =>
                        clear hp hs ht hbel hc0 hf0 HF
                        obtain ⟨hp, hs, ht, hbel⟩ := hcut
                        have hrwl1 := fixFirst_len (raw word)
                        have HF : Hid (plainW word = if 1 < (fixFirst (raw word)).length ∧ (fixFirst (raw word)).getD ((fixFirst (raw word)).length - 1) 0 = 59 then (fixFirst (raw word)).set ((fixFirst (raw word)).length - 1) 98 else fixFirst (raw word)) := rfl
                        have hc0 := own_byte hp (word.size - 1) (by omega)
                        have hf0 := hp.frozenAt (word.size - 1)
                        rw [hrwl1, hrwl] at HF
                        generalize (fixFirst (raw word)).getD (word.size - 1) 0 = x at *
                        generalize fixFirst (raw word) = Q1 at *
                        go_upto_region 35 with fail
                        obtain ⟨lb, hlb⟩ : ∃ lb : Bool, lb = decide (1 < word.size ∧ x = 59) := ⟨_, rfl⟩
                        have HB : Hid (lb = decide (1 < word.size ∧ x = 59)) := hlb
                        clear hlb
                        go_cut [108] (fun s108 wx => s108 = .bool lb ∧ wc = wx)
                        case first =>
                          by_cases h1 : 1 < word.size
                          · go_wp2
                            go_meet
                            exact ⟨congrArg Value.bool (by rw [HB.out, Bool.eq_iff_iff]; simp [h1]), rfl⟩
                          · go_wp2
                            go_meet
                            exact ⟨congrArg Value.bool (by rw [HB.out, Bool.eq_iff_iff]; simp [h1]), rfl⟩
                        case rest =>
                          obtain ⟨rfl, rfl⟩ := hcut
                          go_upto_if 108 with fail
                          go_cut [] (fun wx => wx.ownsRow w.heap.size 5 1 (.slice (some ⟨gp, 0, none⟩) word.size word.size) word.size ((plainW word).map (Value.int .u8)) ∧
                              wx.ownsRow w.heap.size 5 1 (.slice (some ⟨g, 0, none⟩) (R.length + 1) c) (R.length + 1) ((R ++ [sep]).map (Value.int .u8)) ∧ wx.ownsRow w.heap.size 27 2 u8 ts.length (tokCells ts) ∧ Below w.heap.size w wx)
                          case first =>
                            by_cases hx : 1 < word.size ∧ x = 59
                            · obtain rfl : lb = true := HB.out.trans (decide_eq_true hx)
                              have hp2 : (wc.setCell ⟨gp, word.size - 1, none⟩ (.int .u8 98)).ownsRow w.heap.size 5 1 (.slice (some ⟨gp, 0, none⟩) word.size word.size) word.size ((plainW word).map (Value.int .u8)) := by
                                rw [HF.out, if_pos hx, List.map_set]
                                exact (hp.stored _ _).1
                              have hs2 := ownsRow_setCell_other hs (a := ⟨gp, word.size - 1, none⟩) (by simpa [Value.ownBlock] using hgp) (.int .u8 98)
                              have hta : u8.ownBlock ≠ some gp := by
                                rcases rows_apart ht hp (by decide) with h | h
                                · rw [h]; simp
                                · exact h
                              have ht2 := ownsRow_setCell_other ht (a := ⟨gp, word.size - 1, none⟩) hta (.int .u8 98)
                              have hbel2 := hbel.setCell (p := ⟨gp, word.size - 1, none⟩) hgpB (.int .u8 98)
                              have h1 := hx.1
                              clear hp hs ht hbel HF hx
                              go_wp2
                              go_meet
                              exact ⟨hp2, hs2, ht2, hbel2⟩
                            · obtain rfl : lb = false := HB.out.trans (decide_eq_false hx)
                              rw [show Q1 = plainW word by rw [HF.out, if_neg hx]] at hp
                              clear HF hx
                              go_wp2
                              go_meet
                              exact ⟨hp, hs, ht, hbel⟩
                          case rest =>
                            clear hp hs ht hbel hc0 hf0 HF hrwl1 hrwl
                            obtain ⟨hp, hs, ht, hbel⟩ := hcut
                            have hpwl := plainW_len word
                            have hchars := (pair_good [word] [] 0 0).chars
                            have hne : plainW word ≠ [] := fun e => by rw [e] at hpwl; simp at hpwl; omega
                            have HC : Hid (∀ c ∈ plainW word, c = 97 ∨ c = 98 ∨ c = 35 ∨ c = 59 ∨ c = 32 ∨ c = 9) := by unfold Hid; simpa [pair] using hchars
                            have HR2 := HR.out
                            have HT2 := HT.out
                            rw [if_neg hne] at HT2
                            clear hchars HR HT hne
                            generalize plainW word = p at *
                            have HR3 : Hid (render (pairs ws ss sl (j + 1)) = R ++ sep :: esc p) := HR2
                            have HT3 : Hid (toks 1 (pairs ws ss sl (j + 1)) = ts ++ [(p, L1)]) := HT2
                            clear HR2 HT2
                            go_wp2
                            go_loopw [7, 116] (fun s7 i116 wq => ∃ (i g c : Nat), i ≤ word.size ∧ i116 = .int .i64 i ∧ s7 = .slice (some ⟨g, 0, none⟩) (R.length + 1 + (esc (p.take i)).length) c ∧ g ≠ gp ∧
                                wq.ownsRow w.heap.size 5 1 (.slice (some ⟨g, 0, none⟩) (R.length + 1 + (esc (p.take i)).length) c) (R.length + 1 + (esc (p.take i)).length) ((R ++ sep :: esc (p.take i)).map (Value.int .u8)) ∧
                                wq.ownsRow w.heap.size 5 1 (.slice (some ⟨gp, 0, none⟩) word.size word.size) word.size (p.map (Value.int .u8)) ∧ wq.ownsRow w.heap.size 27 2 u8 ts.length (tokCells ts) ∧ Below w.heap.size w wq) (fun _ i _ => word.size - (intOf i).toNat)
                            case atStart => exact ⟨0, g, c, Nat.zero_le _, rfl, rfl, hgp, by simpa [esc] using hs, hp, ht, hbel⟩
                            case round =>
                              clear hs hp ht hbel hgp
                              obtain ⟨i, g, c, hi, rfl, rfl, hgp, hs, hp, ht, hbel⟩ := hrel
                              have hsz := hbel.size
                              have lgp : gp < wr.heap.size := (hp.lt gp rfl).2
                              have hel := (esc_len (p.take i)).2
                              have htk : (p.take i).length ≤ p.length := List.length_take_le' _ _
                              by_cases hil : i < word.size
                              · have hip : i < p.length := by omega
                                have hcx := own_byte hp i hil
                                have hcc := HC.out _ (char_mem p i hip)
                                have hsu := esc_take_succ p i hip
                                have HX : Hid (R ++ sep :: esc (p.take (i + 1)) = (R ++ sep :: esc (p.take i)) ++ esc1 (p.getD i 0)) := by unfold Hid; rw [hsu]; simp
                                have HN : Hid (R.length + 1 + (esc (p.take (i + 1))).length = R.length + 1 + (esc (p.take i)).length + (esc1 (p.getD i 0)).length) := by unfold Hid; rw [hsu, List.length_append]; omega
                                have hNb : R.length + 1 + (esc (p.take i)).length ≤ 10000000 := by omega
                                clear hsu hel htk
                                generalize p.getD i 0 = ch at *
                                generalize R ++ sep :: esc (p.take i) = X at *
                                generalize R.length + 1 + (esc (p.take i)).length = N at *
                                by_cases hbl : ch = 32 ∨ ch = 9
                                · have he1 : esc1 ch = [92, ch] := if_pos hbl
                                  rw [he1] at HX HN
                                  clear he1 hcc
                                  rcases hbl with rfl | rfl
                                  all_goals
                                    go_wp2_with (at_builtin; refine wpList_append_lies _ rfl (.tmp 126) (.tmp 127) 23 rfl w.heap.size 5 i5 (.int .u8 0) 1 1 Yba.underlying23 hi5 hy0 hy1 hy2 rfl (by decide) _ N (X.map (Value.int .u8)) rfl (hs.alloc _) ⟨wr.heap.size, 0, none⟩ 1 1 [.int .u8 92] rfl rfl (cell_one_new _ _ _) (by intro u hu; simp at hu; subst hu; rfl) (by omega) (by unfold maxLen; omega) (by omega) (by simp; omega) _ rfl ?_)
                                    intro g2 c2 w2 hs2 hgrow hat hg2
                                    have hs3 : w2.ownsRow w.heap.size 5 1 (.slice (some ⟨g2, 0, none⟩) (N + 1) c2) (N + 1) ((X ++ [92]).map (Value.int .u8)) := by simpa using hs2
                                    have hp3 := (hp.alloc (.cells #[.int .u8 92] 5)).kept hgrow (.inr (by simpa [Value.ownBlock] using Ne.symm hgp))
                                    have ht3 := (ht.alloc (.cells #[.int .u8 92] 5)).kept hgrow (rows_apart ht hs (by decide))
                                    have hbel3 := (hbel.alloc hsz (.cells #[.int .u8 92] 5)).grown hgrow (by simp; omega) (fun k hk => by cases hk; exact (hs.lt g rfl).1)
                                    have hg2p : g2 ≠ gp := by
                                      rcases hat with h | h
                                      · simp [Value.ownBlock] at h; omega
                                      · omega
                                    have hsz3 := hbel3.size
                                    have lgp3 : gp < w2.heap.size := (hp3.lt gp rfl).2
                                    clear hs2 hgrow hat hs hp ht hbel hsz lgp hgp hg2 hcx
                                    go_wp2_with (at_builtin; refine wpList_append_lies _ rfl (.tmp 129) (.tmp 131) 23 rfl w.heap.size 5 i5 (.int .u8 0) 1 1 Yba.underlying23 hi5 hy0 hy1 hy2 rfl (by decide) _ (N + 1) ((X ++ [92]).map (Value.int .u8)) rfl (hs3.alloc _) ⟨w2.heap.size, 0, none⟩ 1 1 _ rfl rfl (cell_one_new _ _ _) (by intro u hu; simp at hu; subst hu; rfl) (by omega) (by unfold maxLen; omega) (by omega) (by simp; omega) _ rfl ?_)
                                    intro g4 c4 w4 hs4 hgrow4 hat4 hg4
                                    have hs5 : w4.ownsRow w.heap.size 5 1 (.slice (some ⟨g4, 0, none⟩) (N + 2) c4) (N + 2) ((R ++ sep :: esc (p.take (i + 1))).map (Value.int .u8)) := by rw [HX.out]; simpa using hs4
                                    have hp5 := (hp3.alloc _).kept hgrow4 (.inr (by simpa [Value.ownBlock] using Ne.symm hg2p))
                                    have ht5 := (ht3.alloc _).kept hgrow4 (rows_apart ht3 hs3 (by decide))
                                    have hbel5 := (hbel3.alloc hsz3 _).grown hgrow4 (by simp; omega) (fun k hk => by cases hk; exact (hs3.lt g2 rfl).1)
                                    have hg4p : g4 ≠ gp := by
                                      rcases hat4 with h | h
                                      · simp [Value.ownBlock] at h; omega
                                      · omega
                                    clear hs4 hgrow4 hat4 hs3 hp3 ht3 hbel3 hsz3 lgp3 hg2p hg4
                                    go_wp2
                                    go_roundw
                                    case rel => exact ⟨i + 1, g4, c4, by omega, by go_num, by rw [HN.out]; rfl, hg4p, by rw [HN.out]; exact hs5, hp5, ht5, hbel5⟩
                                    case measure => simp [intOf]; omega
                                · have he1 : esc1 ch = [ch] := if_neg hbl
                                  rw [he1] at HX HN
                                  have f1 : (ch == 32) = false := by rw [beq_eq_false_iff_ne]; omega
                                  have f2 : (ch == 9) = false := by rw [beq_eq_false_iff_ne]; omega
                                  clear he1 hcc hbl
                                  go_wp2_with (at_builtin; refine wpList_append_lies _ rfl (.tmp 129) (.tmp 131) 23 rfl w.heap.size 5 i5 (.int .u8 0) 1 1 Yba.underlying23 hi5 hy0 hy1 hy2 rfl (by decide) _ N (X.map (Value.int .u8)) rfl (hs.alloc _) ⟨wr.heap.size, 0, none⟩ 1 1 [.int .u8 ch] rfl rfl (cell_one_new _ _ _) (by intro u hu; simp at hu; subst hu; rfl) (by omega) (by unfold maxLen; omega) (by omega) (by simp; omega) _ rfl ?_)
                                  intro g2 c2 w2 hs2 hgrow hat hg2
                                  have hs3 : w2.ownsRow w.heap.size 5 1 (.slice (some ⟨g2, 0, none⟩) (N + 1) c2) (N + 1) ((R ++ sep :: esc (p.take (i + 1))).map (Value.int .u8)) := by rw [HX.out]; simpa using hs2
                                  have hp3 := (hp.alloc (.cells #[.int .u8 ch] 5)).kept hgrow (.inr (by simpa [Value.ownBlock] using Ne.symm hgp))
                                  have ht3 := (ht.alloc (.cells #[.int .u8 ch] 5)).kept hgrow (rows_apart ht hs (by decide))
                                  have hbel3 := (hbel.alloc hsz (.cells #[.int .u8 ch] 5)).grown hgrow (by simp; omega) (fun k hk => by cases hk; exact (hs.lt g rfl).1)
                                  have hg2p : g2 ≠ gp := by
                                    rcases hat with h | h
                                    · simp [Value.ownBlock] at h; omega
                                    · omega
                                  clear hs2 hgrow hat hs hp ht hbel hsz lgp hgp hg2 hcx
                                  go_wp2
                                  go_roundw
                                  case rel => exact ⟨i + 1, g2, c2, by omega, by go_num, by rw [HN.out]; rfl, hg2p, by rw [HN.out]; exact hs3, hp3, ht3, hbel3⟩
                                  case measure => simp [intOf]; omega
                              · obtain rfl : i = word.size := by omega
                                rw [List.take_of_length_le (by omega)] at hs
                                rw [List.take_of_length_le (by omega)]
                                have hcv := run_convert_bytes_arg (P := Yba.prog) wr 23 5 Yba.underlying23 Yba.underlying5 gp 0 word.size word.size p hpwl (fun i hi => by rw [Nat.zero_add]; exact own_byte hp i hi) 9 Yba.underlying9
                                have hN : (R ++ sep :: esc p).length = R.length + 1 + (esc p).length := by simp; omega
                                have HNN : Hid ((R ++ sep :: esc p).length = R.length + 1 + (esc p).length) := hN
                                clear hel htk hN
                                generalize R ++ sep :: esc p = X at *
                                generalize R.length + 1 + (esc p).length = N at *
                                go_wp2_with (at_builtin; refine wpList_append_lies _ rfl (.tmp 134) (.tmp 139) 24 rfl w.heap.size 27 i27 (.agg #[.string ⟨#[]⟩, .int .i64 0]) 2 24 Yba.underlying24 hi27 hz0 hz1 hz2 rfl (by decide) _ ts.length (tokCells ts) rfl (ht.alloc _) ⟨wr.heap.size, 0, none⟩ 1 1 [.string (strOfNums p), .int .i64 L1] rfl rfl (World.news_of_block (cs := #[.string (strOfNums p), .int .i64 L1]) (t := 27) (fr := (0, 0)) (heap_alloc_new wr _)) (by simp [Value.oneCell']) (by omega) (by unfold maxLen; omega) (by omega) (by simp; omega) _ rfl ?_)
                                intro g2 c2 w2 ht2 hgrow hat hg2
                                have hs3 := (hs.alloc (.cells #[.string (strOfNums p), .int .i64 L1] 27)).kept hgrow (rows_apart hs ht (by decide))
                                have hbel3 := (hbel.alloc hsz (.cells #[.string (strOfNums p), .int .i64 L1] 27)).grown hgrow (by simp; omega) (fun k hk => (ht.lt k hk).1)
                                have ht3 : w2.ownsRow w.heap.size 27 2 (.slice (some ⟨g2, 0, none⟩) (ts.length + 1) c2) (toks 1 (pairs ws ss sl (j + 1))).length (tokCells (toks 1 (pairs ws ss sl (j + 1)))) := by
                                  rw [HT3.out, tokCells_snoc]
                                  simpa using ht2
                                have hs4 : w2.ownsRow w.heap.size 5 1 (.slice (some ⟨g, 0, none⟩) N c) (render (pairs ws ss sl (j + 1))).length ((render (pairs ws ss sl (j + 1))).map (Value.int .u8)) := by
                                  rw [HR3.out, HNN.out]
                                  exact hs3
                                clear ht2 hgrow hat hs hp ht hbel hcv hs3
                                go_wp2
                                go_roundg (gk - 1)
                                case measure => omega
                                case rel => exact ⟨j + 1, by omega, by go_num, hs4, ht3, by rw [HL.out], hbel3⟩
          · obtain rfl : j = k := by omega
            have hrl := render_le ws ss sl j hshort.out
            have hgd := pairs_good ws ss sl j
            have hpl := pairs_len ws ss sl j
            have htl := toks_le (pairs ws ss sl j) 1
            have hr0 : pairs ws ss sl j ≠ [] → 0 < (render (pairs ws ss sl j)).length := fun hne => by
              have h0 : 0 < (pairs ws ss sl j).length := by cases hp : pairs ws ss sl j with | nil => exact absurd hp hne | cons => simp
              have := lt_len (pairs ws ss sl j) 0 h0
              omega
            have HT : Hid (∃ ms, Calls Yba.prog 5 #[u7] wr fun e w' => ∃ t2, e = .returned t2 ∧ w'.ownsRow ms 27 2 t2 (toks 1 (pairs ws ss sl j)).length (tokCells (toks 1 (pairs ws ss sl j))) ∧ Below wr.heap.size wr w') := by
              by_cases hne : pairs ws ss sl j = []
              · rw [hne] at hs ⊢
                obtain ⟨ao, c, rfl, _⟩ := own_shape hs
                refine ⟨0, (tok_nil ao c wr).mono ?_⟩
                rintro e w' ⟨rfl, rfl⟩
                exact ⟨_, rfl, World.ownsRow_nil _ _ _ _, Below.refl _ _⟩
              · obtain ⟨gs, c, rfl, _, hg⟩ := hs.form (hr0 hne)
                exact ⟨_, tok_some _ gs _ c wr hgd rfl (by omega) (by omega) hg (fun i hi => own_byte hs i hi)⟩
            obtain ⟨ms, CT⟩ := HT.out
            clear HT hs hrl hgd hr0
            generalize toks 1 (pairs ws ss sl j) = ts at *
            go_wp2_with fail
            refine CT.mono ?_
            rintro e w2 ⟨t2, rfl, ht2, hb2⟩
            have ht1 := own_below ht hb2 (Nat.le_refl _)
            have hbel2 : Below w.heap.size w w2 := hbel.trans (hb2.mono hbel.size)
            obtain ⟨ao, c1, rfl, hg1⟩ := own_shape ht1
            obtain ⟨bo, c2, rfl, hg2⟩ := own_shape ht2
            clear CT ht hbel hb2
            go_wp2
            go_loopw [151] (fun i wr => ∃ i' : Nat, i' ≤ ts.length ∧ i = .int .i64 i' ∧ Below w2.heap.size w2 wr) (fun i _ => ts.length - (intOf i).toNat)
            case atStart => exact ⟨0, Nat.zero_le _, rfl, Below.refl _ _⟩
            case round =>
              obtain ⟨i, hi, rfl, hbw⟩ := hrel
              by_cases hil : i < ts.length
              · obtain ⟨g1, rfl⟩ := hg1 (by omega)
                obtain ⟨g2, rfl⟩ := hg2 (by omega)
                obtain ⟨hx, hy⟩ := tokCells_at ts i hil
                have p0 := cell_later hbw ((ht1.cellAt (i * 2) (by omega)).trans hx)
                have p1 := cell_later hbw ((ht1.cellAt (i * 2 + 1) (by omega)).trans hy)
                have q0 := cell_later hbw ((ht2.cellAt (i * 2) (by omega)).trans hx)
                have q1 := cell_later hbw ((ht2.cellAt (i * 2 + 1) (by omega)).trans hy)
                clear hx hy ht1 ht2 hg1 hg2
                generalize strOfNums (ts.getD i ([], 0)).1 = S at *
                generalize (ts.getD i ([], 0)).2 = L at *
                have e0 : (0 : Int) ≤ (i : Int) := by omega
                have e1 : (i : Int) < (ts.length : Int) := by omega
                go_wp2
                go_quiet (fail)
                go_wp2
                go_roundw
                case rel => exact ⟨i + 1, by omega, by go_num, below_drewN hbw _⟩
                case measure => simp [intOf]; omega
              · go_wp2
                go_ret
                exact ⟨rfl, hbel2.trans (hbw.mono hbel2.size)⟩
end Go.Proofs.Ybulkamxe
