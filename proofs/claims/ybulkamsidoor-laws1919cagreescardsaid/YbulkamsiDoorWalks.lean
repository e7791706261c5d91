/-
  THE WALKS over store.figureColumns, policy.Figures, slices.Clone, zzs1919ceq.
-/
import Derived.Test.YbulkamsiDoorRows
import Derived.WalkKit
import Derived.WalkSpells
import Derived.WalkLawsBesides
import Derived.Deep.AppendLies
import Derived.Deep.QuietTactic
import Derived.BigQuiet
namespace Go.Proofs.YbulkamsiDoor
open Go.RowKit

theorem info28 : (Ybad.prog.info? 28).map (fun i => (i.zero, i.size, i.bytes)) = some (some (.string ⟨#[]⟩), 1, 16) := by kernel_rfl
theorem info9 : (Ybad.prog.info? 9).map (fun i => (i.zero, i.size, i.bytes)) = some (some (.string ⟨#[]⟩), 1, 16) := by kernel_rfl

theorem strs_oneCell (xs : List ByteArray) : ∀ u ∈ xs.map Value.string, u.oneCell' = true := by
  intro u hu
  obtain ⟨s, _, rfl⟩ := List.mem_map.1 hu
  rfl

theorem strs_at (xs : List ByteArray) (j : Nat) (u : Value) (h : (xs.map Value.string)[j]? = some u) : j < xs.length ∧ u = .string (xs.getD j ByteArray.empty) := by
  rw [List.getElem?_map] at h
  cases hx : xs[j]? with
  | none => simp [hx] at h
  | some s =>
    simp [hx] at h
    refine ⟨(List.getElem?_eq_some_iff.1 hx).1, ?_⟩
    simp [List.getD, hx, h]

set_option maxHeartbeats 400000 in
theorem clone_any (b off cap : Nat) (n : Nat) (xs : List ByteArray) (w : World) (hn : xs.length = n) (h0 : 0 < n) (h1 : n ≤ 1000) (hb : b < w.heap.size)
    (hc : ∀ i, i < n → w.cell? ⟨b, off + i, none⟩ = some (.string (xs.getD i ByteArray.empty))) :
    Calls Ybad.prog 9 #[.slice (some ⟨b, off, none⟩) n cap] w fun e w' => ∃ g c, e = .returned (.slice (some ⟨g, 0, none⟩) n c) ∧
      w'.ownsRow w.heap.size 28 1 (.slice (some ⟨g, 0, none⟩) n c) n (xs.map Value.string) ∧ Below w.heap.size w w' := by
  obtain ⟨i0, hi, hz0, hz1, hz2⟩ := info_parts info28
  have qT : ∀ (w : World) (a : Option Addr) (n c : Nat), (binOp .eql 26 (.slice a n c) (.slice none 0 0)).run Ybad.prog w = .ok (.bool a.isNone) w := fun w a n c => Lib.run_eql_slice_nil w _ _ _ _ _ _ _ Ybad.underlying26
  have hcell : ∀ j u, (xs.map Value.string)[j]? = some u → (w.alloc (.cells #[] 28)).cell? ((⟨b, off, none⟩ : Addr).add j) = some u := by
    intro j u hu
    obtain ⟨hj, rfl⟩ := strs_at xs j u hu
    rw [Addr.add_lit, World.cell?_alloc_past _ _ _ hb]
    exact hc j (by omega)
  have HC : Hid (∀ j u, (xs.map Value.string)[j]? = some u → (w.alloc (.cells #[] 28)).cell? ((⟨b, off, none⟩ : Addr).add j) = some u) := hcell
  have HN : Hid (xs.length = n) := hn
  clear hcell hc hn
  go_enter Ybad.func9, Ybad.ntmps9
  go_wp2_with (at_builtin; refine wpList_append_lies _ rfl (.tmp 5) (.tmp 6) 26 rfl w.heap.size 28 i0 (.string ⟨#[]⟩) 1 16 Ybad.underlying26 hi hz0 hz1 hz2 rfl (by decide) _ 0 [] rfl ?own ⟨b, off, none⟩ n cap (xs.map Value.string) rfl ?len HC.out (strs_oneCell xs) h0 (by unfold maxLen; omega) (by omega) (by simp) _ rfl ?_)
  case own => exact World.ownsRow_made w #[] 0 (Nat.le_refl _) (by unfold maxLen; omega) (by simp)
  case len => simp [HN.out]
  intro g c w1 hown hgrow hat hlt
  go_wp2
  go_ret
  refine ⟨g, c, ?_, ?_, ?_⟩
  · simp
  · simpa using hown
  · exact ((Below.refl _ _).alloc (Nat.le_refl _) _).grown hgrow (by simp) (fun k h => by simp [Value.ownBlock] at h; omega)

set_option maxHeartbeats 400000 in
theorem figures_any (b off cap : Nat) (n : Nat) (xs : List ByteArray) (w : World) (hn : xs.length = n) (h0 : 0 < n) (h1 : n ≤ 1000) (hb : b < w.heap.size)
    (hg : w.cell? ⟨0, 0, none⟩ = some (.slice (some ⟨b, off, none⟩) n cap))
    (hc : ∀ i, i < n → w.cell? ⟨b, off + i, none⟩ = some (.string (xs.getD i ByteArray.empty))) :
    Calls Ybad.prog 8 #[] w fun e w' => ∃ g c, e = .returned (.slice (some ⟨g, 0, none⟩) n c) ∧
      w'.ownsRow w.heap.size 28 1 (.slice (some ⟨g, 0, none⟩) n c) n (xs.map Value.string) ∧ Below w.heap.size w w' := by
  have C := clone_any b off cap n xs w hn h0 h1 hb hc
  clear hc hn
  go_enter Ybad.func8, Ybad.ntmps8
  go_wp2_with (go_at_call 9; refine C.mono ?_; rintro e w1 ⟨g, c, rfl, hown, hbel⟩)
  go_ret
  exact ⟨g, c, rfl, hown, hbel⟩

/-- Two owned rows of two element types lie in two blocks. -/
theorem rows_apart {w : World} {b1 b2 e1 e2 s1 s2 n1 n2 : Nat} {v1 v2 : Value} {x1 x2 : List Value} (h1 : w.ownsRow b1 e1 s1 v1 n1 x1) (h2 : w.ownsRow b2 e2 s2 v2 n2 x2) (he : e1 ≠ e2) :
    v1.ownBlock = none ∨ v1.ownBlock ≠ v2.ownBlock := by
  rcases h1.2 with ⟨rfl, _⟩ | ⟨g, c, cur, rfl, _, hg, _⟩
  · exact .inl rfl
  · rcases h2.2 with ⟨rfl, _⟩ | ⟨g', c', cur', rfl, _, hg', _⟩
    · exact .inr (by simp [Value.ownBlock])
    · refine .inr fun e => ?_
      simp [Value.ownBlock] at e
      subst e
      rw [hg] at hg'
      simp at hg'
      exact he hg'.2

theorem take_snoc_str (xs : List ByteArray) (k : Nat) (h : k < xs.length) : (xs.take (k + 1)).map Value.string = (xs.take k).map Value.string ++ [.string (xs.getD k ByteArray.empty)] := by
  rw [List.take_succ_eq_append_getElem h, List.map_append]
  simp only [List.map_cons, List.map_nil, List.getD, List.getElem?_eq_getElem h, Option.getD_some]

theorem own_cell {w : World} {base e g n c : Nat} {xs : List ByteArray} (h : w.ownsRow base e 1 (.slice (some ⟨g, 0, none⟩) n c) n (xs.map Value.string)) (k : Nat) (hk : k < n) :
    w.cell? ⟨g, k, none⟩ = some (.string (xs.getD k ByteArray.empty)) := by
  rw [h.cellAt k (by omega)]
  have := h.1
  simp at this
  simp [List.getD, show k < xs.length by omega]

set_option maxHeartbeats 400000 in
theorem columns_any (b off cap : Nat) (n : Nat) (xs : List ByteArray) (w : World) (hn : xs.length = n) (h0 : 0 < n) (h1 : n ≤ 1000) (hb : b < w.heap.size)
    (hg : w.cell? ⟨0, 0, none⟩ = some (.slice (some ⟨b, off, none⟩) n cap))
    (hc : ∀ i, i < n → w.cell? ⟨b, off + i, none⟩ = some (.string (xs.getD i ByteArray.empty))) :
    Calls Ybad.prog 6 #[] w fun e w' => ∃ g c, e = .returned (.slice (some ⟨g, 0, none⟩) n c) ∧
      w'.ownsRow w.heap.size 9 1 (.slice (some ⟨g, 0, none⟩) n c) n (xs.map Value.string) ∧ Below w.heap.size w w' := by
  have C := figures_any b off cap n xs w hn h0 h1 hb hg hc
  obtain ⟨i0, hi, hz0, hz1, hz2⟩ := info_parts info9
  have HN : Hid (xs.length = n) := hn
  clear hc hn hg
  go_enter Ybad.func6, Ybad.ntmps6
  go_wp2_with (go_at_call 8; refine C.mono ?_; rintro e w1 ⟨g, c, rfl, hown, hbel⟩)
  go_loopw [1, 6] (fun v i wr => ∃ k : Nat, k ≤ n ∧ i = .int .i64 k ∧ wr.ownsRow w.heap.size 9 1 v k ((xs.take k).map Value.string) ∧
      wr.ownsRow w.heap.size 28 1 (.slice (some ⟨g, 0, none⟩) n c) n (xs.map Value.string) ∧ Below w.heap.size w wr) (fun _ i _ => n - (intOf i).toNat)
  case atStart => exact ⟨0, Nat.zero_le _, rfl, World.ownsRow_nil _ _ _ _, hown, hbel⟩
  case round =>
    obtain ⟨k, hk, rfl, hv, hf, hnx⟩ := hrel
    clear hown hbel C
    by_cases hlt : k < n
    · have hcx := own_cell hf k hlt
      have hsz := hnx.size
      go_wp2_with (at_builtin; refine wpList_append_lies _ rfl (.tmp 10) (.tmp 12) 22 rfl w.heap.size 9 i0 (.string ⟨#[]⟩) 1 16 Ybad.underlying22 hi hz0 hz1 hz2 rfl (by decide) _ k ((xs.take k).map Value.string) rfl (hv.alloc _) ⟨wr.heap.size, 0, none⟩ 1 1 [.string (xs.getD k ByteArray.empty)] rfl rfl ?c1 (by intro u hu; simp at hu; subst hu; rfl) (by omega) (by unfold maxLen; omega) (by omega) (by simp; omega) _ rfl ?_)
      case c1 => exact cell_one_new _ _ _
      intro g2 c2 w2 hv2 hgrow hat hg2
      have hf2 := (hf.alloc (.cells #[.string (xs.getD k ByteArray.empty)] 9)).kept hgrow (rows_apart hf hv (by decide))
      have hnx2 := (hnx.alloc hsz (.cells #[.string (xs.getD k ByteArray.empty)] 9)).grown hgrow (by simp; omega) (fun j hj => (hv.lt j hj).1)
      have hv3 : w2.ownsRow w.heap.size 9 1 (.slice (some ⟨g2, 0, none⟩) (k + 1) c2) (k + 1) ((xs.take (k + 1)).map Value.string) := by
        rw [take_snoc_str xs k (by have := HN.out; omega)]
        simpa using hv2
      clear hv2 hgrow hf hv hcx hat hnx
      go_wp2
      go_roundw
      case rel => exact ⟨k + 1, by omega, by go_num, hv3, hf2, hnx2⟩
      case measure => simp [intOf]; omega
    · obtain rfl : k = n := by omega
      obtain ⟨g2, c2, rfl, _, _⟩ := hv.form h0
      have hv3 : wr.ownsRow w.heap.size 9 1 (.slice (some ⟨g2, 0, none⟩) k c2) k (xs.map Value.string) := by
        have := HN.out
        rw [List.take_of_length_le (by omega)] at hv
        exact hv
      clear hv hf
      go_wp2
      go_ret
      exact ⟨g2, c2, rfl, hv3, hnx⟩

set_option maxHeartbeats 400000 in
theorem eq_any (ga ca gb cb : Nat) (n : Nat) (xs : List ByteArray) (w : World) (h1 : n ≤ 1000)
    (ha : ∀ i, i < n → w.cell? ⟨ga, i, none⟩ = some (.string (xs.getD i ByteArray.empty)))
    (hb : ∀ i, i < n → w.cell? ⟨gb, i, none⟩ = some (.string (xs.getD i ByteArray.empty))) :
    Calls Ybad.prog 7 #[.slice (some ⟨ga, 0, none⟩) n ca, .slice (some ⟨gb, 0, none⟩) n cb] w fun e w' => e = .returned (.bool true) ∧ Below w.heap.size w w' := by
  go_enter Ybad.func7, Ybad.ntmps7
  go_wp2
  go_loopw [5] (fun i wr => ∃ k : Nat, k ≤ n ∧ i = .int .i64 k ∧ Below w.heap.size w wr) (fun i _ => n - (intOf i).toNat)
  case atStart => exact ⟨0, Nat.zero_le _, rfl, Below.refl _ _⟩
  case round =>
    obtain ⟨k, hk, rfl, hnx⟩ := hrel
    by_cases hlt : k < n
    · have hca := cell_later hnx (ha k hlt)
      have hcb := cell_later hnx (hb k hlt)
      clear ha hb
      go_wp2
      go_quiet (fail)
      go_wp2
      go_roundw
      case rel => exact ⟨k + 1, by omega, by go_num, below_drewN hnx _⟩
      case measure => simp [intOf]; omega
    · go_wp2
      go_ret
      exact ⟨rfl, hnx⟩

def figs : List ByteArray := [⟨#[110, 101, 116, 95, 97, 115, 115, 101, 116, 115]⟩, ⟨#[116, 111, 116, 97, 108, 95, 97, 115, 115, 101, 116, 115]⟩, ⟨#[109, 97, 114, 107, 101, 116, 95, 99, 97, 112]⟩]

theorem figs_len : figs.length = 3 := rfl

/-- The cells of a slice literal that the call lays: the three names. -/
theorem want_cell (w : World) : ∀ i, i < 3 → (w.alloc (.cells #[.string ⟨#[110, 101, 116, 95, 97, 115, 115, 101, 116, 115]⟩, .string ⟨#[116, 111, 116, 97, 108, 95, 97, 115, 115, 101, 116, 115]⟩, .string ⟨#[109, 97, 114, 107, 101, 116, 95, 99, 97, 112]⟩] 9)).cell? ⟨w.heap.size, i, none⟩ = some (.string (figs.getD i ByteArray.empty)) := by
  intro i hi
  match i, hi with
  | 0, _ => simp [figs]
  | 1, _ => simp [figs]
  | 2, _ => simp [figs]

/-- What the walks are told of the package-level variable 'figures': three names, somewhere. -/
structure Fig (w : World) (b off cap : Nat) : Prop where
  lt : b < w.heap.size
  var : w.cell? ⟨0, 0, none⟩ = some (.slice (some ⟨b, off, none⟩) 3 cap)
  cell : ∀ i, i < 3 → w.cell? ⟨b, off + i, none⟩ = some (.string (figs.getD i ByteArray.empty))

theorem Fig.later {w w' : World} {b off cap : Nat} (h : Fig w b off cap) (hb : Below w.heap.size w w') : Fig w' b off cap :=
  ⟨Nat.lt_of_lt_of_le h.lt hb.size, cell_later hb h.var, fun i hi => cell_later hb (h.cell i hi)⟩

theorem columns_fig (b off cap : Nat) (w : World) (h : Fig w b off cap) :
    Calls Ybad.prog 6 #[] w fun e w' => ∃ g c, e = .returned (.slice (some ⟨g, 0, none⟩) 3 c) ∧
      w'.ownsRow w.heap.size 9 1 (.slice (some ⟨g, 0, none⟩) 3 c) 3 (figs.map Value.string) ∧ Below w.heap.size w w' :=
  columns_any b off cap 3 figs w rfl (by omega) (by omega) h.lt h.var h.cell

theorem figures_fig (b off cap : Nat) (w : World) (h : Fig w b off cap) :
    Calls Ybad.prog 8 #[] w fun e w' => ∃ g c, e = .returned (.slice (some ⟨g, 0, none⟩) 3 c) ∧
      w'.ownsRow w.heap.size 28 1 (.slice (some ⟨g, 0, none⟩) 3 c) 3 (figs.map Value.string) ∧ Below w.heap.size w w' :=
  figures_any b off cap 3 figs w rfl (by omega) (by omega) h.lt h.var h.cell

set_option maxHeartbeats 400000 in
theorem list_walk (b off cap : Nat) (w : World) (h : Fig w b off cap) :
    Calls Ybad.prog 3 #[] w fun e w' => e = .returned (.bool true) ∧ Below w.heap.size w w' := by
  have C := columns_fig b off cap w h
  go_enter Ybad.func3, Ybad.ntmps3
  go_wp2_with fail
  refine C.mono ?_
  rintro e w1 ⟨g, c, rfl, hown, hbel⟩
  go_wp2_with fail
  refine (eq_any g c w1.heap.size 3 3 figs _ (by omega) (fun i hi => ?_) (want_cell w1)).mono ?_
  · exact own_cell (hown.alloc _) i hi
  rintro e w2 ⟨rfl, hbel2⟩
  go_wp2
  go_ret
  exact ⟨rfl, (hbel.alloc hbel.size _).trans (hbel2.mono (by have := hbel.size; simp; omega))⟩

set_option maxHeartbeats 400000 in
theorem agrees_walk (b off cap : Nat) (w : World) (h : Fig w b off cap) :
    Calls Ybad.prog 4 #[] w fun e w' => e = .returned (.bool true) ∧ Below w.heap.size w w' := by
  have C := columns_fig b off cap w h
  go_enter Ybad.func4, Ybad.ntmps4
  go_wp2_with fail
  refine C.mono ?_
  rintro e w1 ⟨g, c, rfl, hown, hbel⟩
  have h1 := h.later hbel
  clear C
  have C := figures_fig b off cap w1 h1
  go_wp2_with fail
  refine C.mono ?_
  rintro e w2 ⟨g2, c2, rfl, hown2, hbel2⟩
  have ha : ∀ i, i < 3 → w2.cell? ⟨g, i, none⟩ = some (.string (figs.getD i ByteArray.empty)) := fun i hi => cell_later hbel2 (own_cell hown i hi)
  have hb : ∀ i, i < 3 → w2.cell? ⟨g2, i, none⟩ = some (.string (figs.getD i ByteArray.empty)) := fun i hi => own_cell hown2 i hi
  have hB : Below w.heap.size w w2 := hbel.trans (hbel2.mono hbel.size)
  clear hown hown2 hbel hbel2 C h h1
  go_wp2
  go_loopw [3] (fun i wr => ∃ k : Nat, k ≤ 3 ∧ i = .int .i64 k ∧ Below w2.heap.size w2 wr) (fun i _ => 3 - (intOf i).toNat)
  case atStart => exact ⟨0, Nat.zero_le _, rfl, Below.refl _ _⟩
  case round =>
    obtain ⟨k, hk, rfl, hnx⟩ := hrel
    by_cases hlt : k < 3
    · have hca := cell_later hnx (ha k hlt)
      have hcb := cell_later hnx (hb k hlt)
      clear ha hb
      go_wp2
      go_quiet (fail)
      go_wp2
      go_roundw
      case rel => exact ⟨k + 1, by omega, by go_num, below_drewN hnx _⟩
      case measure => simp [intOf]; omega
    · go_wp2
      go_ret
      exact ⟨rfl, hB.trans (hnx.mono hB.size)⟩

theorem set_small {ss : List ByteArray} {k : Nat} {s : ByteArray} (h : ∀ s ∈ ss, s.size ≤ 100 + k) (hs : s.size ≤ 100 + k) : ∀ t ∈ ss.set k (s ++ ⟨#[35]⟩), t.size ≤ 100 + (k + 1) := by
  intro t ht
  rcases List.mem_or_eq_of_mem_set ht with ht | rfl
  · have := h t ht
    omega
  · rw [ByteArray.size_append]
    have : (⟨#[35]⟩ : ByteArray).size = 1 := rfl
    omega

theorem figs_small : ∀ s ∈ figs, s.size ≤ 100 + 0 := by
  intro s hs
  simp only [figs, List.mem_cons, List.not_mem_nil, or_false] at hs
  rcases hs with rfl | rfl | rfl <;> decide

set_option maxHeartbeats 400000 in
theorem fresh_walk (b off cap : Nat) (w : World) (h : Fig w b off cap) :
    Calls Ybad.prog 5 #[] w fun e w' => e = .returned (.bool true) ∧ Below w.heap.size w w' := by
  have C := columns_fig b off cap w h
  go_enter Ybad.func5, Ybad.ntmps5
  go_wp2_with fail
  refine C.mono ?_
  rintro e w1 ⟨g, c, rfl, hown, hbel⟩
  clear C
  have hg : w.heap.size ≤ g := (hown.lt g rfl).1
  go_wp2
  go_loopw [2] (fun i wr => ∃ (k : Nat) (ss : List ByteArray), k ≤ 3 ∧ i = .int .i64 k ∧ ss.length = 3 ∧ (∀ s ∈ ss, s.size ≤ 100 + k) ∧
      wr.ownsRow w.heap.size 9 1 (.slice (some ⟨g, 0, none⟩) 3 c) 3 (ss.map Value.string) ∧ Below w.heap.size w wr) (fun i _ => 3 - (intOf i).toNat)
  case atStart => exact ⟨0, figs, Nat.zero_le _, rfl, rfl, figs_small, hown, hbel⟩
  case round =>
    obtain ⟨k, ss, hk, rfl, hs3, hss, ho, hnx⟩ := hrel
    clear hown hbel
    by_cases hlt : k < 3
    · have hca := own_cell ho k hlt
      have hfz := ho.frozenAt k
      obtain ⟨s, hs⟩ : ∃ s, s = ss.getD k ByteArray.empty := ⟨_, rfl⟩
      rw [← hs] at hca
      have hsz : s.size ≤ 100 + k := by
        rw [hs]
        simp only [List.getD, List.getElem?_eq_getElem (show k < ss.length by omega), Option.getD_some]
        exact hss _ (List.getElem_mem _)
      clear hs
      have hst := (ho.stored k (.string (s ++ ⟨#[35]⟩))).1
      rw [← List.map_set] at hst
      have HS : Hid ((wr.setCell ⟨g, k, none⟩ (.string (s ++ ⟨#[35]⟩))).ownsRow w.heap.size 9 1 (.slice (some ⟨g, 0, none⟩) 3 c) 3 ((ss.set k (s ++ ⟨#[35]⟩)).map Value.string)) := hst
      have HS3 : Hid (ss.length = 3) := hs3
      have HSS : Hid (∀ s ∈ ss, s.size ≤ 100 + k) := hss
      clear hst ho hs3 hss
      go_wp2
      go_roundw
      case rel => exact ⟨k + 1, _, by omega, by go_num, by simpa using HS3.out, set_small HSS.out hsz, HS.out, hnx.setCell (by exact hg) _⟩
      case measure => simp [intOf]; omega
    · have h1 := h.later hnx
      have C := columns_fig b off cap wr h1
      clear ho hss hs3 h1
      go_wp2_with fail
      refine C.mono ?_
      rintro e w3 ⟨g3, c3, rfl, hown3, hbel3⟩
      clear C
      go_wp2_with fail
      refine (eq_any g3 c3 w3.heap.size 3 3 figs _ (by omega) (fun i hi => ?_) (want_cell w3)).mono ?_
      · exact own_cell (hown3.alloc _) i hi
      rintro e w4 ⟨rfl, hbel4⟩
      go_wp2
      go_ret
      have hB : Below w.heap.size w w3 := hnx.trans (hbel3.mono hnx.size)
      exact ⟨rfl, (hB.alloc hB.size _).trans (hbel4.mono (by have := hB.size; simp; omega))⟩

end Go.Proofs.YbulkamsiDoor
