/-
  WHAT AN Offsets HOLDS, AND THE CONTRACTS OF Append, Len, At OVER IT.
-/
import Derived.Test.YbulkamwqOff
namespace Go.Proofs.Ybulkamwq
open Go.RowKit Go.Maps

/-- What the small list keeps of a number. -/
def sm (v : Int) : Int := if v < 4294967295 then v else 4294967295
/-- How many numbers are kept aside. -/
def big (vs : List Int) : Nat := (vs.filter fun v => decide (4294967295 ≤ v)).length
/-- The key of place i. -/
def ky (i : Nat) : Lit := .int .i64 i

/-- The map holds just the large numbers, each at its place. -/
structure MapIs (D : DataW Unit) (vs : List Int) : Prop where
  has : ∀ i : Nat, Maps.has D (ky i) = decide (4294967295 ≤ vs.getD i 0)
  at' : ∀ i : Nat, 4294967295 ≤ vs.getD i 0 → D.atKey (ky i) (.lit (.int .u64 0)) = .lit (.int .u64 (vs.getD i 0))
  size : Maps.size D = big vs
  tidy : Maps.Tidy D

def LargeOf (w : World) (B : Nat) (mv : Value) (vs : List Int) : Prop :=
  (mv = .map none ∧ ∀ v ∈ vs, v < 4294967295) ∨
  ∃ bm D, B < bm ∧ mv = .map (some bm) ∧ w.ownsMap Yba.prog 3 (plainElem (H := Unit) Yba.prog 30) bm vs.length D ∧ MapIs D vs ∧ 0 < big vs

structure Off (w : World) (B : Nat) (vs : List Int) (cv mv : Value) : Prop where
  blk : w.heap[B]? = some (.cells #[cv, .int .i64 vs.length, mv] 28 (0, 0))
  chunk : ChunkOf w (B + 1) cv (vs.map sm)
  large : LargeOf w B mv vs
  fit : ∀ v ∈ vs, 0 ≤ v ∧ v ≤ 18446744073709551615

theorem getD_snoc_lt (vs : List Int) (v : Int) (i : Nat) (h : i < vs.length) : (vs ++ [v]).getD i 0 = vs.getD i 0 := by
  simp [List.getD, List.getElem?_append_left h]
theorem getD_snoc_eq (vs : List Int) (v : Int) : (vs ++ [v]).getD vs.length 0 = v := by
  simp [List.getD]
theorem getD_snoc_gt (vs : List Int) (v : Int) (i : Nat) (h : vs.length < i) : (vs ++ [v]).getD i 0 = 0 := by
  have : (vs ++ [v])[i]? = none := List.getElem?_eq_none (by simp; omega)
  simp [List.getD, this]
theorem getD_past (vs : List Int) (i : Nat) (h : vs.length ≤ i) : vs.getD i 0 = 0 := by
  have : vs[i]? = none := List.getElem?_eq_none h
  simp [List.getD, this]

theorem big_snoc (vs : List Int) (v : Int) : big (vs ++ [v]) = big vs + if 4294967295 ≤ v then 1 else 0 := by
  unfold big
  rw [List.filter_append]
  by_cases h : 4294967295 ≤ v <;> simp [h]

theorem big_zero {vs : List Int} (h : ∀ v ∈ vs, v < 4294967295) : big vs = 0 := by
  unfold big
  rw [List.length_eq_zero_iff, List.filter_eq_nil_iff]
  intro v hv
  have := h v hv
  simp
  omega

theorem small_of_big {vs : List Int} (h : big vs = 0) : ∀ v ∈ vs, v < 4294967295 := by
  unfold big at h
  rw [List.length_eq_zero_iff, List.filter_eq_nil_iff] at h
  intro v hv
  have := h v hv
  simp at this
  omega

theorem ky_ne {i j : Nat} (h : i ≠ j) : ky i ≠ ky j := by
  intro e
  simp only [ky, Lit.int.injEq, true_and] at e
  omega

/-- Nothing large yet. -/
theorem mapIs_empty {vs : List Int} (h : ∀ v ∈ vs, v < 4294967295) : MapIs (.map []) vs := by
  have hb : ∀ i : Nat, ¬ 4294967295 ≤ vs.getD i 0 := by
    intro i
    by_cases hi : i < vs.length
    · have := h (vs.getD i 0) (by simp [List.getD, hi])
      omega
    · rw [getD_past vs i (by omega)]
      omega
  exact ⟨fun i => by rw [decide_eq_false (hb i)]; rfl, fun i hi => absurd hi (hb i), by rw [big_zero h]; rfl, Maps.tidy_empty⟩

/-- A small number more. -/
theorem MapIs.small {D : DataW Unit} {vs : List Int} {v : Int} (h : MapIs D vs) (hv : v < 4294967295) : MapIs D (vs ++ [v]) := by
  have e : ∀ i : Nat, (4294967295 ≤ (vs ++ [v]).getD i 0) ↔ 4294967295 ≤ vs.getD i 0 := by
    intro i
    rcases Nat.lt_trichotomy i vs.length with hi | rfl | hi
    · rw [getD_snoc_lt _ _ _ hi]
    · rw [getD_snoc_eq, getD_past vs _ (Nat.le_refl _)]
      omega
    · rw [getD_snoc_gt _ _ _ hi, getD_past vs _ (by omega)]
  refine ⟨fun i => by rw [h.has i]; simp only [e i], fun i hi => ?_, by rw [h.size, big_snoc, if_neg (by omega)]; rfl, h.tidy⟩
  have hi' := (e i).1 hi
  rw [h.at' i hi']
  have hl : i < vs.length := by
    rcases Nat.lt_or_ge i vs.length with hl | hl
    · exact hl
    · rw [getD_past vs i hl] at hi'
      omega
  rw [getD_snoc_lt _ _ _ hl]

/-- A large number more: it is put at its place. -/
theorem MapIs.large {D : DataW Unit} {vs : List Int} {v : Int} (h : MapIs D vs) (hv : 4294967295 ≤ v) : MapIs (D.put (ky vs.length) (.lit (.int .u64 v))) (vs ++ [v]) := by
  have hk : WideAt.IsKeyLit (ky vs.length) := trivial
  have hno : Maps.has D (ky vs.length) = false := by
    rw [h.has, getD_past vs _ (Nat.le_refl _)]
    simp
  refine ⟨fun i => ?_, fun i hi => ?_, ?_, h.tidy.put hk _⟩
  · rcases Nat.lt_trichotomy i vs.length with hi | rfl | hi
    · rw [Maps.has_put_other (ky_ne (by omega)), h.has, getD_snoc_lt _ _ _ hi]
    · rw [Maps.has_put_same h.tidy.isMap hk, getD_snoc_eq]
      simp [hv]
    · rw [Maps.has_put_other (ky_ne (by omega)), h.has, getD_snoc_gt _ _ _ hi, getD_past vs _ (by omega)]
  · rcases Nat.lt_trichotomy i vs.length with hl | rfl | hl
    · rw [getD_snoc_lt _ _ _ hl] at hi ⊢
      rw [Maps.atKey_put_other (ky_ne (by omega)), h.at' i hi]
    · rw [Maps.atKey_put_same h.tidy.isMap hk, getD_snoc_eq]
    · rw [getD_snoc_gt _ _ _ hl] at hi
      omega
  · rw [Maps.size_put h.tidy, hno, h.size, big_snoc, if_pos hv]
    simp

theorem ownsMap_keeps {B : Nat} {w w' : World} (hk : Keeps B w w') {bm n : Nat} {D : DataW Unit} (h : w.ownsMap Yba.prog 3 (plainElem (H := Unit) Yba.prog 30) bm n D) : w'.ownsMap Yba.prog 3 (plainElem (H := Unit) Yba.prog 30) bm n D := by
  obtain ⟨es, clock, hb, F, hs, hD⟩ := h
  exact ⟨es, clock, hk.2 _ _ _ hb, F, hs, hD⟩

/-- A row of cells is no map. -/
theorem row_not_map {w : World} {base e size n : Nat} {v : Value} {xs : List Value} (h : w.ownsRow base e size v n xs) {bm : Nat} {es : Array MapEntry} {cl : Nat} (hm : w.heap[bm]? = some (.map es cl)) : v.ownBlock = none ∨ v.ownBlock ≠ some bm := by
  cases hv : v.ownBlock with
  | none => exact .inl rfl
  | some k =>
    refine .inr fun e => ?_
    cases e
    obtain ⟨cs, t, fr, hc⟩ := own_cells h bm hv
    rw [hc] at hm
    cases hm

theorem chunk_grown {w w' : World} {base bm : Nat} {cv : Value} {zs : List Int} {es : Array MapEntry} {cl : Nat} (h : ChunkOf w base cv zs) (hg : w.grownBy w' (some bm)) (hm : w.heap[bm]? = some (.map es cl)) : ChunkOf w' base cv zs := by
  rcases h with h | ⟨g0, c0, g, c, h0, h1, ho, hr⟩
  · exact .inl h
  · exact .inr ⟨g0, c0, g, c, h0, h1, ho.kept hg (row_not_map ho hm), hr.kept hg (row_not_map hr hm)⟩

theorem chunk_made {w : World} {B : Nat} {cv : Value} {zs : List Int} (h : ChunkOf w (B + 1) cv zs) : ChunkOf (Made w B) (B + 1) cv zs := by
  rcases h with h | ⟨g0, c0, g, c, h0, h1, ho, hr⟩
  · exact .inl h
  · exact .inr ⟨g0, c0, g, c, h0, h1, (ownsRow_setCell_below ho (a := ⟨B, 2, none⟩) (Nat.lt_succ_self _) _).alloc _, (ownsRow_setCell_below hr (a := ⟨B, 2, none⟩) (Nat.lt_succ_self _) _).alloc _⟩

theorem sm_snoc_small (vs : List Int) (v : Int) (h : v < 4294967295) : (vs ++ [v]).map sm = vs.map sm ++ [v] := by
  simp [sm, h]
theorem sm_snoc_large (vs : List Int) (v : Int) (h : 4294967295 ≤ v) : (vs ++ [v]).map sm = vs.map sm ++ [4294967295] := by
  simp [sm, show ¬ v < 4294967295 by omega]
theorem fit_snoc {vs : List Int} {v : Int} (h : ∀ v ∈ vs, 0 ≤ v ∧ v ≤ 18446744073709551615) (h0 : 0 ≤ v) (h1 : v ≤ 18446744073709551615) : ∀ x ∈ vs ++ [v], 0 ≤ x ∧ x ≤ 18446744073709551615 := by
  intro x hx
  rcases List.mem_append.1 hx with hx | hx
  · exact h x hx
  · simp at hx
    subst hx
    exact ⟨h0, h1⟩

/-- THE CONTRACT OF Offsets.Append. -/
theorem oapp_any (B : Nat) (v : Int) (vs : List Int) (cv mv : Value) (w : World) (h : Off w B vs cv mv) (hn : vs.length < 1024) (hv : 0 ≤ v) (hv2 : v ≤ 18446744073709551615) :
    Calls Yba.prog 7 #[.pointer (some ⟨B, 0, none⟩), .int .u64 v] w fun e w' => e = .returned (.tuple #[]) ∧ ∃ cv' mv', Off w' B (vs ++ [v]) cv' mv' ∧ Below B w w' := by
  have lB : B < w.heap.size := lt_of_block h.blk
  have hlen : (vs.map sm).length = vs.length := by simp
  have hcast : ((vs ++ [v]).length : Int) = (vs.length : Int) + 1 := by simp
  by_cases hs : v < 4294967295
  · refine oapp_small B v w _ hv hs ((lapp_any B (B + 1) vs.length v (vs.map sm) cv mv w (Nat.lt_succ_self _) (by omega) hlen hn h.blk h.chunk).mono ?_)
    rintro e w' ⟨rfl, cv', hb, hc, hk⟩
    refine ⟨rfl, rfl, cv', mv, ⟨?_, ?_, ?_, fit_snoc h.fit hv hv2⟩, hk.1⟩
    · rw [hcast]; exact hb
    · rw [sm_snoc_small _ _ hs]; exact hc
    · rcases h.large with ⟨h1, h2⟩ | ⟨bm, D, hB, h1, h2, h3, h4⟩
      · exact .inl ⟨h1, fun x hx => by rcases List.mem_append.1 hx with hx | hx; exact h2 x hx; simp at hx; omega⟩
      · exact .inr ⟨bm, D, hB, h1, (ownsMap_keeps hk h2).mono (by simp), h3.small hs, by rw [big_snoc]; omega⟩
  · have hs' : 4294967295 ≤ v := by omega
    rcases h.large with ⟨rfl, h2⟩ | ⟨bm, D, hB, rfl, h2, h3, h4⟩
    · refine oapp_make B vs.length v cv w _ hs' hv2 hn h.blk ?_
      intro w1 hown hg
      have hbm : B ≠ w.heap.size := by omega
      have hM := made_block h.blk
      obtain ⟨es, cl, hmap, _⟩ := made_owns w B
      have hb1 : w1.heap[B]? = some (.cells #[cv, .int .i64 vs.length, .map (some w.heap.size)] 28 (0, 0)) := by
        rw [hg.block B (lt_of_block hM) (by simpa using hbm)]
        exact hM
      have hc1 := chunk_grown (chunk_made h.chunk) hg hmap
      have hbel : Below B w w1 := (made_keeps h.blk).1.grown hg (Nat.le_of_lt (lt_of_block hM)) (fun k hk => by cases hk; omega)
      refine (lapp_any B (B + 1) vs.length 4294967295 (vs.map sm) cv _ w1 (Nat.lt_succ_self _) (lt_of_block hb1) hlen hn hb1 hc1).mono ?_
      rintro e w' ⟨rfl, cv', hb, hc, hk⟩
      refine ⟨rfl, rfl, cv', _, ⟨?_, ?_, .inr ⟨_, _, lB, rfl, (ownsMap_keeps hk hown).mono (by simp), (mapIs_empty h2).large hs', ?_⟩, fit_snoc h.fit hv hv2⟩, hbel.trans hk.1⟩
      · rw [hcast]; exact hb
      · rw [sm_snoc_large _ _ hs']; exact hc
      · rw [big_snoc, if_pos hs']; omega
    · have hb := h.blk
      refine oapp_large B bm vs.length v D w _ hs' hv2 hn (by simp [World.cell?, hb]) (by simp [World.cell?, hb]) h2 ?_
      intro w1 hown hg
      obtain ⟨es, cl, hmap, _⟩ := h2
      have hbm : B ≠ bm := by
        rintro rfl
        rw [hb] at hmap
        cases hmap
      have hb1 : w1.heap[B]? = some (.cells #[cv, .int .i64 vs.length, .map (some bm)] 28 (0, 0)) := by
        rw [hg.block B lB (by simpa using hbm)]
        exact hb
      have hc1 := chunk_grown h.chunk hg hmap
      have hbel : Below B w w1 := (Below.refl B w).grown hg (Nat.le_of_lt lB) (fun k hk => by cases hk; omega)
      refine (lapp_any B (B + 1) vs.length 4294967295 (vs.map sm) cv _ w1 (Nat.lt_succ_self _) (lt_of_block hb1) hlen hn hb1 hc1).mono ?_
      rintro e w' ⟨rfl, cv', hb', hc, hk⟩
      refine ⟨rfl, rfl, cv', _, ⟨?_, ?_, .inr ⟨_, _, hB, rfl, (ownsMap_keeps hk hown).mono (by simp), h3.large hs', ?_⟩, fit_snoc h.fit hv hv2⟩, hbel.trans hk.1⟩
      · rw [hcast]; exact hb'
      · rw [sm_snoc_large _ _ hs']; exact hc
      · rw [big_snoc, if_pos hs']; omega

/-- THE CONTRACT OF Offsets.Len. -/
theorem olen_any (B : Nat) (n : Int) (w : World) (h : w.cell? ⟨B, 1, none⟩ = some (.int .i64 n)) :
    Calls Yba.prog 9 #[.pointer (some ⟨B, 0, none⟩)] w fun e w' => e = .returned (.int .i64 n) ∧ w = w' := by
  have C := llen_any B n w h
  go_enter Yba.func9, Yba.ntmps9
  go_wp2_with (go_at_call 12; refine C.mono ?_; rintro e w' ⟨rfl, rfl⟩)
  go_ret
  exact ⟨rfl, rfl⟩

set_option maxHeartbeats 400000 in
theorem oat_small (B : Nat) (i z : Int) (w : World) (hz : 0 ≤ z) (hz2 : z < 4294967295)
    (C : Calls Yba.prog 14 #[.pointer (some ⟨B, 0, none⟩), .int .i64 i] w fun e w' => e = .returned (.int .u32 z) ∧ w = w') :
    Calls Yba.prog 10 #[.pointer (some ⟨B, 0, none⟩), .int .i64 i] w fun e w' => e = .returned (.int .u64 z) ∧ w = w' := by
  go_enter Yba.func10, Yba.ntmps10
  go_wp2_with (go_at_call 14; refine C.mono ?_; rintro e w' ⟨rfl, rfl⟩)
  go_ret
  exact ⟨rfl, rfl⟩

set_option maxHeartbeats 400000 in
theorem oat_large (B bm : Nat) (i c : Int) (w : World) (h2 : w.cell? ⟨B, 2, none⟩ = some (.map (some bm)))
    (hrun : (Instr.lookup 26 (.map (some bm)) (.int .i64 i) false).run Yba.prog w = .ok (.int .u64 c) w)
    (C : Calls Yba.prog 14 #[.pointer (some ⟨B, 0, none⟩), .int .i64 i] w fun e w' => e = .returned (.int .u32 4294967295) ∧ w = w') :
    Calls Yba.prog 10 #[.pointer (some ⟨B, 0, none⟩), .int .i64 i] w fun e w' => e = .returned (.int .u64 c) ∧ w = w' := by
  go_enter Yba.func10, Yba.ntmps10
  go_wp2_with (go_at_call 14; refine C.mono ?_; rintro e w' ⟨rfl, rfl⟩)
  go_ret
  exact ⟨rfl, rfl⟩

theorem sm_getD (vs : List Int) (i : Nat) (hi : i < vs.length) : (vs.map sm).getD i 0 = sm (vs.getD i 0) := by
  simp [List.getD, hi]

/-- A number's place in the chunk, as the walks read it. -/
theorem Off.cells {w : World} {B : Nat} {vs : List Int} {cv mv : Value} (h : Off w B vs cv mv) (h0 : 0 < vs.length) : ∃ g0 c0 g c, cv = .slice (some ⟨g0, 0, none⟩) 1 c0 ∧
    w.cell? ⟨B, 0, none⟩ = some (.slice (some ⟨g0, 0, none⟩) 1 c0) ∧ w.cell? ⟨g0, 0, none⟩ = some (.slice (some ⟨g, 0, none⟩) vs.length c) ∧
    ∀ i, i < vs.length → w.cell? ⟨g, i, none⟩ = some (.int .u32 (sm (vs.getD i 0))) := by
  have hb := h.blk
  rcases h.chunk with ⟨hz, _⟩ | ⟨g0, c0, g, c, hpos, rfl, ho, hr⟩
  · simp at hz
    subst hz
    simp at h0
  · rw [show (vs.map sm).length = vs.length by simp] at ho hr
    refine ⟨g0, c0, g, c, rfl, by simp [World.cell?, hb], by simpa using ho.cellAt 0 (by omega), fun i hi => ?_⟩
    rw [hr.cellAt i (by omega), ← sm_getD vs i hi]
    simp [List.getD, hi]

theorem getD_mem (vs : List Int) (i : Nat) (hi : i < vs.length) : vs.getD i 0 ∈ vs := by
  simp [List.getD, hi]

/-- What a look-up of place i answers. -/
theorem Off.look {w : World} {B : Nat} {vs : List Int} {cv mv : Value} (h : Off w B vs cv mv) (i : Nat) (hi : i < vs.length) (hn : vs.length ≤ 1024) (hbig : 4294967295 ≤ vs.getD i 0) :
    ∃ bm, mv = .map (some bm) ∧ (Instr.lookup 26 (.map (some bm)) (.int .i64 i) false).run Yba.prog w = .ok (.int .u64 (vs.getD i 0)) w := by
  rcases h.large with ⟨_, h2⟩ | ⟨bm, D, _, rfl, hown, hm, _⟩
  · have := h2 _ (getD_mem vs i hi)
    omega
  · obtain ⟨c, hrun, hat, _⟩ := hown.lookup_int (t := 26) keyLaw Yba.underlying26 Yba.underlying30 (zero30 _) (keyOf_int_mk (a := (i : Int)) Yba.underlying3 (WalkArith.wf_i64 (by omega)))
    have := hm.at' i hbig
    unfold ky at this
    rw [this] at hat
    simp at hat
    subst hat
    exact ⟨bm, rfl, hrun⟩

/-- THE CONTRACT OF Offsets.At. -/
theorem oat_any (B i : Nat) (vs : List Int) (cv mv : Value) (w : World) (h : Off w B vs cv mv) (hi : i < vs.length) (hn : vs.length ≤ 1024) :
    Calls Yba.prog 10 #[.pointer (some ⟨B, 0, none⟩), .int .i64 i] w fun e w' => e = .returned (.int .u64 (vs.getD i 0)) ∧ w = w' := by
  obtain ⟨g0, c0, g, c, _, h0, h1, h2⟩ := h.cells (by omega)
  have hb := h.blk
  have C := lat_any B g0 c0 g c vs.length i _ w hn hi h0 h1 (h2 i hi)
  have hf := h.fit _ (getD_mem vs i hi)
  by_cases hbig : 4294967295 ≤ vs.getD i 0
  · rw [show sm (vs.getD i 0) = 4294967295 from if_neg (by omega)] at C
    obtain ⟨bm, rfl, hrun⟩ := h.look i hi hn hbig
    exact oat_large B bm i _ w (by simp [World.cell?, hb]) hrun C
  · rw [show sm (vs.getD i 0) = vs.getD i 0 from if_pos (by omega)] at C
    exact oat_small B i _ w hf.1 (by omega) C
end Go.Proofs.Ybulkamwq
