/-
  THE PLAIN MATHEMATICS of LawS1928CRoundTrip: words, their escaped text, the source that the law writes, the tokens that are read back. Bytes are numbers (Int). No Go in sight.
-/
namespace Go.Proofs.Ybulkamxe.Plain

/-- The alphabet. -/
def alph (k : Int) : Int := if k = 0 then 97 else if k = 1 then 98 else if k = 2 then 35 else if k = 3 then 59 else if k = 4 then 32 else 9
/-- One byte, escaped. -/
def esc1 (b : Int) : List Int := if b = 32 ∨ b = 9 then [92, b] else [b]
/-- A word, escaped. -/
def esc (p : List Int) : List Int := p.flatMap esc1
/-- Does a separator begin a new line? -/
def nl (s : Int) : Nat := if s = 10 then 1 else 0
/-- The source: each word behind its separator. -/
def render (ps : List (Int × List Int)) : List Int := ps.flatMap fun q => q.1 :: esc q.2
/-- The line behind the pairs. -/
def lines (ps : List (Int × List Int)) : Nat := 1 + (ps.map fun q => nl q.1).sum
/-- The tokens, the line that each stands on. -/
def toks : Nat → List (Int × List Int) → List (List Int × Nat)
  | _, [] => []
  | l, q :: r => (if q.2 = [] then [] else [(q.2, l + nl q.1)]) ++ toks (l + nl q.1) r

/-- What the law makes sure of, for each pair. -/
structure Good (q : Int × List Int) : Prop where
  sep : q.1 = 32 ∨ q.1 = 9 ∨ q.1 = 13 ∨ q.1 = 10
  chars : ∀ c ∈ q.2, c = 97 ∨ c = 98 ∨ c = 35 ∨ c = 59 ∨ c = 32 ∨ c = 9
  first : q.2.getD 0 0 ≠ 35
  last : 1 < q.2.length → q.2.getD (q.2.length - 1) 0 ≠ 59

theorem esc_append (a b : List Int) : esc (a ++ b) = esc a ++ esc b := by simp [esc]
theorem render_append (a b : List (Int × List Int)) : render (a ++ b) = render a ++ render b := by simp [render]
theorem render_snoc (a : List (Int × List Int)) (q : Int × List Int) : render (a ++ [q]) = render a ++ q.1 :: esc q.2 := by simp [render]
theorem lines_snoc (a : List (Int × List Int)) (q : Int × List Int) : lines (a ++ [q]) = lines a + nl q.1 := by simp [lines]; omega

theorem toks_append (a b : List (Int × List Int)) : ∀ l, toks l (a ++ b) = toks l a ++ toks (l + (a.map fun q => nl q.1).sum) b := by
  induction a with
  | nil => intro l; simp [toks]
  | cons q r ih => intro l; simp [toks, ih, List.append_assoc, Nat.add_assoc]

theorem toks_snoc (a : List (Int × List Int)) (q : Int × List Int) : toks 1 (a ++ [q]) = toks 1 a ++ (if q.2 = [] then [] else [(q.2, lines a + nl q.1)]) := by
  rw [toks_append]
  simp [toks, lines]

theorem esc1_len (b : Int) : 1 ≤ (esc1 b).length ∧ (esc1 b).length ≤ 2 := by
  unfold esc1
  split <;> simp
theorem esc_len (p : List Int) : p.length ≤ (esc p).length ∧ (esc p).length ≤ 2 * p.length := by
  induction p with
  | nil => simp [esc]
  | cons b r ih =>
    have := esc1_len b
    have e : esc (b :: r) = esc1 b ++ esc r := by simp [esc]
    rw [e]
    simp only [List.length_append, List.length_cons]
    omega

theorem esc_take_succ (p : List Int) (j : Nat) (h : j < p.length) : esc (p.take (j + 1)) = esc (p.take j) ++ esc1 (p.getD j 0) := by
  rw [List.take_succ_eq_append_getElem h, esc_append]
  simp [esc, List.getD, h]

/-- A word cut at place j. -/
theorem esc_split (p : List Int) (j : Nat) (h : j < p.length) : esc p = esc (p.take j) ++ (esc1 (p.getD j 0) ++ esc (p.drop (j + 1))) := by
  have e : p = p.take j ++ (p.getD j 0 :: p.drop (j + 1)) := by
    have : p.getD j 0 = p[j] := by simp [List.getD, h]
    rw [this, ← List.drop_eq_getElem_cons h, List.take_append_drop]
  rw [show esc p = esc (p.take j ++ (p.getD j 0 :: p.drop (j + 1))) from by rw [← e], esc_append]
  simp [esc]

/-- The source cut at pair d. -/
theorem render_split (ps : List (Int × List Int)) (d : Nat) (h : d < ps.length) : render ps = render (ps.take d) ++ ((ps.getD d (0, [])).1 :: (esc (ps.getD d (0, [])).2 ++ render (ps.drop (d + 1)))) := by
  have e : ps = ps.take d ++ (ps.getD d (0, []) :: ps.drop (d + 1)) := by
    have : ps.getD d (0, []) = ps[d] := by simp [List.getD, h]
    rw [this, ← List.drop_eq_getElem_cons h, List.take_append_drop]
  rw [show render ps = render (ps.take d ++ (ps.getD d (0, []) :: ps.drop (d + 1))) from by rw [← e], render_append]
  simp [render]

theorem take_snoc (ps : List (Int × List Int)) (d : Nat) (h : d < ps.length) : ps.take (d + 1) = ps.take d ++ [ps.getD d (0, [])] := by
  rw [List.take_succ_eq_append_getElem h]
  simp [List.getD, h]

theorem getD_append_right (a b : List Int) (i : Nat) : (a ++ b).getD (a.length + i) 0 = b.getD i 0 := by
  have : (a ++ b)[a.length + i]? = b[i]? := by rw [List.getElem?_append_right (by omega)]; congr 1; omega
  simp [List.getD, this]
theorem getD_append_left (a b : List Int) (i : Nat) (h : i < a.length) : (a ++ b).getD i 0 = a.getD i 0 := by
  simp [List.getD, List.getElem?_append_left h]

/-- The byte at the head of pair d. -/
theorem at_sep (ps : List (Int × List Int)) (d : Nat) (h : d < ps.length) : (render ps).getD (render (ps.take d)).length 0 = (ps.getD d (0, [])).1 := by
  have := getD_append_right (render (ps.take d)) ((ps.getD d (0, [])).1 :: (esc (ps.getD d (0, [])).2 ++ render (ps.drop (d + 1)))) 0
  rw [← render_split ps d h] at this
  simpa using this

/-- How far pair d reaches. -/
theorem end_len (ps : List (Int × List Int)) (d : Nat) (h : d < ps.length) : (render (ps.take (d + 1))).length = (render (ps.take d)).length + 1 + (esc (ps.getD d (0, [])).2).length := by
  rw [take_snoc ps d h, render_snoc]
  simp
  omega

theorem take_len_le (ps : List (Int × List Int)) (d : Nat) : (render (ps.take d)).length ≤ (render ps).length := by
  have e : render ps = render (ps.take d) ++ render (ps.drop d) := by rw [← render_append, List.take_append_drop]
  rw [e]
  simp

/-- A byte inside word d: the one at place i of the escaped word. -/
theorem at_word (ps : List (Int × List Int)) (d : Nat) (h : d < ps.length) (i : Nat) (hi : i < (esc (ps.getD d (0, [])).2).length) : (render ps).getD ((render (ps.take d)).length + 1 + i) 0 = (esc (ps.getD d (0, [])).2).getD i 0 := by
  have := getD_append_right (render (ps.take d)) ((ps.getD d (0, [])).1 :: (esc (ps.getD d (0, [])).2 ++ render (ps.drop (d + 1)))) (1 + i)
  rw [← render_split ps d h, ← Nat.add_assoc] at this
  rw [this, Nat.add_comm 1 i]
  show (esc (ps.getD d (0, [])).2 ++ render (ps.drop (d + 1))).getD i 0 = _
  exact getD_append_left _ _ _ hi

/-- .. at place j of the word itself: a plain byte. -/
theorem at_plain (p : List Int) (j : Nat) (h : j < p.length) (hb : ¬ (p.getD j 0 = 32 ∨ p.getD j 0 = 9)) : (esc p).getD (esc (p.take j)).length 0 = p.getD j 0 := by
  have := getD_append_right (esc (p.take j)) (esc1 (p.getD j 0) ++ esc (p.drop (j + 1))) 0
  rw [← esc_split p j h, show esc1 (p.getD j 0) = [p.getD j 0] from if_neg hb] at this
  simpa using this
/-- .. a blank: the mark, then the blank. -/
theorem at_blank (p : List Int) (j : Nat) (h : j < p.length) (hb : p.getD j 0 = 32 ∨ p.getD j 0 = 9) : (esc p).getD (esc (p.take j)).length 0 = 92 ∧ (esc p).getD ((esc (p.take j)).length + 1) 0 = p.getD j 0 := by
  have h0 := getD_append_right (esc (p.take j)) (esc1 (p.getD j 0) ++ esc (p.drop (j + 1))) 0
  have h1 := getD_append_right (esc (p.take j)) (esc1 (p.getD j 0) ++ esc (p.drop (j + 1))) 1
  rw [← esc_split p j h] at h0 h1
  have e : esc1 (p.getD j 0) = [92, p.getD j 0] := by unfold esc1; rw [if_pos hb]
  rw [e] at h0 h1
  exact ⟨by simpa using h0, by simpa using h1⟩

/-- The place of byte j lies inside the word. -/
theorem esc_take_lt (p : List Int) (j : Nat) (h : j < p.length) : (esc (p.take j)).length + (esc1 (p.getD j 0)).length ≤ (esc p).length := by
  have := congrArg List.length (esc_split p j h)
  simp only [List.length_append] at this
  omega
theorem esc_take_all (p : List Int) (j : Nat) (h : p.length ≤ j) : esc (p.take j) = esc p := by rw [List.take_of_length_le h]

theorem pair_mem (ps : List (Int × List Int)) (d : Nat) (h : d < ps.length) : ps.getD d (0, []) ∈ ps := by
  simp [List.getD, h]
theorem char_mem (p : List Int) (j : Nat) (h : j < p.length) : p.getD j 0 ∈ p := by
  simp [List.getD, h]

/-! ### Where tokenize stands -/
/-- Behind d pairs, or behind pair d's separator. -/
def pos (ps : List (Int × List Int)) (d : Nat) (b : Bool) : Nat := (render (ps.take d)).length + b.toNat
def lin (ps : List (Int × List Int)) (d : Nat) (b : Bool) : Nat := lines (ps.take (d + b.toNat))
/-- Behind a separator there is a word. -/
def Stand (ps : List (Int × List Int)) (d : Nat) (b : Bool) : Prop := if b then d < ps.length ∧ (ps.getD d (0, [])).2 ≠ [] else d ≤ ps.length

theorem pos_le (ps : List (Int × List Int)) (d : Nat) (b : Bool) (h : Stand ps d b) : pos ps d b ≤ (render ps).length := by
  unfold pos
  cases b with
  | false => simpa using take_len_le ps d
  | true =>
    have h1 := end_len ps d h.1
    have h2 := take_len_le ps (d + 1)
    simp
    omega

theorem pos_end (ps : List (Int × List Int)) : pos ps ps.length false = (render ps).length := by simp [pos]

theorem lt_len (ps : List (Int × List Int)) (d : Nat) (h : d < ps.length) : (render (ps.take d)).length < (render ps).length := by
  have h1 := end_len ps d h
  have h2 := take_len_le ps (d + 1)
  omega

/-- Over a separator. -/
theorem next_sep (ps : List (Int × List Int)) (d : Nat) (h : d < ps.length) : ∃ d' b', Stand ps d' b' ∧ pos ps d' b' = (render (ps.take d)).length + 1 ∧ lin ps d' b' = lines (ps.take d) + nl (ps.getD d (0, [])).1 ∧ toks 1 (ps.take d') = toks 1 (ps.take d) := by
  by_cases hp : (ps.getD d (0, [])).2 = []
  · refine ⟨d + 1, false, by simp [Stand]; omega, ?_, ?_, ?_⟩
    · have := end_len ps d h
      rw [hp] at this
      simpa [pos, esc] using this
    · simp only [lin, Bool.toNat_false, Nat.add_zero]
      rw [take_snoc ps d h, lines_snoc]
    · rw [take_snoc ps d h, toks_snoc, if_pos hp, List.append_nil]
  · refine ⟨d, true, by simp only [Stand, if_true]; exact ⟨h, hp⟩, by simp [pos], ?_, rfl⟩
    simp only [lin, Bool.toNat_true]
    rw [take_snoc ps d h, lines_snoc]

/-- Over a word. -/
theorem next_word (ps : List (Int × List Int)) (d : Nat) (h : d < ps.length) (hp : (ps.getD d (0, [])).2 ≠ []) : Stand ps (d + 1) false ∧ pos ps (d + 1) false = (render (ps.take d)).length + 1 + (esc (ps.getD d (0, [])).2).length ∧
    lin ps (d + 1) false = lin ps d true ∧ toks 1 (ps.take (d + 1)) = toks 1 (ps.take d) ++ [((ps.getD d (0, [])).2, lin ps d true)] := by
  refine ⟨by simp [Stand]; omega, by simpa [pos] using end_len ps d h, by simp [lin], ?_⟩
  rw [take_snoc ps d h, toks_snoc, if_neg hp]
  simp only [lin, Bool.toNat_true]
  rw [take_snoc ps d h, lines_snoc]

theorem lines_le (ps : List (Int × List Int)) : lines ps ≤ 1 + ps.length := by
  unfold lines
  have : (ps.map fun q => nl q.1).sum ≤ ps.length := by
    induction ps with
    | nil => simp
    | cons q r ih =>
      simp only [List.map_cons, List.sum_cons, List.length_cons]
      have : nl q.1 ≤ 1 := by unfold nl; split <;> omega
      omega
  omega
theorem lin_le (ps : List (Int × List Int)) (d : Nat) (b : Bool) : lin ps d b ≤ 1 + ps.length := by
  have := lines_le (ps.take (d + b.toNat))
  have h2 : (ps.take (d + b.toNat)).length ≤ ps.length := List.length_take_le' _ _
  unfold lin
  omega
theorem toks_le (ps : List (Int × List Int)) : ∀ l, (toks l ps).length ≤ ps.length := by
  induction ps with
  | nil => intro l; simp [toks]
  | cons q r ih =>
    intro l
    have := ih (l + nl q.1)
    simp only [toks, List.length_append, List.length_cons]
    split <;> simp <;> omega

/-- The first byte of an escaped word is no separator and no mark of a comment. -/
theorem first_byte {q : Int × List Int} (g : Good q) (hp : q.2 ≠ []) : (esc q.2).getD 0 0 = 92 ∨ (esc q.2).getD 0 0 = 97 ∨ (esc q.2).getD 0 0 = 98 ∨ (esc q.2).getD 0 0 = 59 := by
  have h0 : 0 < q.2.length := by cases hq : q.2 with | nil => exact absurd hq hp | cons => simp
  have hc := g.chars _ (char_mem q.2 0 h0)
  have hf := g.first
  by_cases hb : q.2.getD 0 0 = 32 ∨ q.2.getD 0 0 = 9
  · have := (at_blank q.2 0 h0 hb).1
    simp [esc] at this
    simp [esc]
    omega
  · have := at_plain q.2 0 h0 hb
    rw [show (esc (q.2.take 0)).length = 0 by simp [esc]] at this
    rw [this]
    omega

theorem esc1_blank {b : Int} (h : b = 32 ∨ b = 9) : (esc1 b).length = 2 := by unfold esc1; rw [if_pos h]; rfl
theorem esc1_plain {b : Int} (h : ¬ (b = 32 ∨ b = 9)) : (esc1 b).length = 1 := by unfold esc1; rw [if_neg h]; rfl
end Go.Proofs.Ybulkamxe.Plain
