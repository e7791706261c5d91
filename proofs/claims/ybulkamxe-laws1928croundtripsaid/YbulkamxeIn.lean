/-
  WHAT THE LAW's WALK IS TOLD OF ITS ARGUMENTS; THE PAIRS THAT IT WRITES.
-/
import Derived.Test.YbulkamxeSmall
namespace Go.Proofs.Ybulkamxe
open Go.RowKit Plain

structure WordsIn (w : World) (a : Option Addr) (len : Nat) (ws : List ByteArray) : Prop where
  at' : 0 < len → ∃ b off, a = some ⟨b, off, none⟩ ∧ b < w.heap.size ∧ ∀ j, j < len → w.cell? ⟨b, off + j, none⟩ = some (.string (ws.getD j ByteArray.empty))
structure SepsIn (w : World) (a : Option Addr) (len : Nat) (ss : List Int) : Prop where
  at' : 0 < len → ∃ b off, a = some ⟨b, off, none⟩ ∧ b < w.heap.size ∧ ∀ j, j < len → w.cell? ⟨b, off + j, none⟩ = some (.int .u8 (ss.getD j 0))
  fit : ∀ j, j < len → 0 ≤ ss.getD j 0 ∧ ss.getD j 0 ≤ 255

/-- The separator that a number picks. -/
def sepB (s : Int) : Int := if s % 4 = 0 then 32 else if s % 4 = 1 then 9 else if s % 4 = 2 then 13 else 10
/-- A word's bytes, mapped into the alphabet. -/
def raw (s : ByteArray) : List Int := s.data.toList.map fun c => alph ((c.toNat : Int) % 6)
def fixFirst (p : List Int) : List Int := if p.getD 0 0 = 35 then p.set 0 97 else p
def fixLast (p : List Int) : List Int := if 1 < p.length ∧ p.getD (p.length - 1) 0 = 59 then p.set (p.length - 1) 98 else p
def plainW (s : ByteArray) : List Int := fixLast (fixFirst (raw s))
/-- The number that picks place i's separator. -/
def pick (ss : List Int) (sl i : Nat) : Int := if i < sl then ss.getD i 0 else 0
def pair (ws : List ByteArray) (ss : List Int) (sl i : Nat) : Int × List Int := (sepB (pick ss sl i), plainW (ws.getD i ByteArray.empty))
/-- The pairs written after k rounds. -/
def pairs (ws : List ByteArray) (ss : List Int) (sl k : Nat) : List (Int × List Int) := (List.range k).map (pair ws ss sl)

theorem pairs_succ (ws : List ByteArray) (ss : List Int) (sl k : Nat) : pairs ws ss sl (k + 1) = pairs ws ss sl k ++ [pair ws ss sl k] := by
  simp [pairs, List.range_succ]
theorem pairs_len (ws : List ByteArray) (ss : List Int) (sl k : Nat) : (pairs ws ss sl k).length = k := by simp [pairs]

def InAl (c : Int) : Prop := c = 97 ∨ c = 98 ∨ c = 35 ∨ c = 59 ∨ c = 32 ∨ c = 9
theorem alph_in (k : Int) : InAl (alph k) := by
  unfold alph InAl
  repeat' split
  all_goals omega
theorem raw_in (s : ByteArray) : ∀ c ∈ raw s, InAl c := by
  intro c hc
  simp only [raw, List.mem_map] at hc
  obtain ⟨x, _, rfl⟩ := hc
  exact alph_in _
theorem raw_len (s : ByteArray) : (raw s).length = s.size := by simp [raw]
theorem set_in {p : List Int} (h : ∀ c ∈ p, InAl c) (i : Nat) {v : Int} (hv : InAl v) : ∀ c ∈ p.set i v, InAl c := by
  intro c hc
  rcases List.mem_or_eq_of_mem_set hc with hc | rfl
  · exact h c hc
  · exact hv
theorem fixFirst_in {p : List Int} (h : ∀ c ∈ p, InAl c) : ∀ c ∈ fixFirst p, InAl c := by
  unfold fixFirst
  split
  · exact set_in h 0 (by simp [InAl])
  · exact h
theorem fixLast_in {p : List Int} (h : ∀ c ∈ p, InAl c) : ∀ c ∈ fixLast p, InAl c := by
  unfold fixLast
  split
  · exact set_in h _ (by simp [InAl])
  · exact h
theorem fixFirst_len (p : List Int) : (fixFirst p).length = p.length := by
  unfold fixFirst
  split <;> simp
theorem fixLast_len (p : List Int) : (fixLast p).length = p.length := by
  unfold fixLast
  split <;> simp
theorem plainW_len (s : ByteArray) : (plainW s).length = s.size := by rw [plainW, fixLast_len, fixFirst_len, raw_len]

theorem getD_set_same (p : List Int) (i : Nat) (v : Int) (h : i < p.length) : (p.set i v).getD i 0 = v := by simp [List.getD, h]
theorem getD_set_other (p : List Int) (i j : Nat) (v : Int) (h : i ≠ j) : (p.set i v).getD j 0 = p.getD j 0 := by simp [List.getD, List.getElem?_set_ne h]

theorem fixFirst_first (p : List Int) : (fixFirst p).getD 0 0 ≠ 35 := by
  unfold fixFirst
  split
  · cases p with
    | nil => simp
    | cons a r => simp
  · assumption
theorem fixLast_first (p : List Int) (h : p.getD 0 0 ≠ 35) : (fixLast p).getD 0 0 ≠ 35 := by
  unfold fixLast
  split
  · rename_i hc
    rw [getD_set_other _ _ _ _ (by omega)]
    exact h
  · exact h
theorem fixLast_last (p : List Int) : 1 < (fixLast p).length → (fixLast p).getD ((fixLast p).length - 1) 0 ≠ 59 := by
  intro h1
  rw [fixLast_len] at h1 ⊢
  unfold fixLast
  split
  · rw [getD_set_same _ _ _ (by omega)]
    omega
  · rename_i hc
    intro e
    exact hc ⟨h1, e⟩

theorem pair_good (ws : List ByteArray) (ss : List Int) (sl i : Nat) : Plain.Good (pair ws ss sl i) := by
  refine ⟨?_, ?_, ?_, ?_⟩
  · simp only [pair, sepB]
    repeat' split
    all_goals simp
  · exact fixLast_in (fixFirst_in (raw_in _))
  · exact fixLast_first _ (fixFirst_first _)
  · exact fixLast_last _
theorem pairs_good (ws : List ByteArray) (ss : List Int) (sl k : Nat) : ∀ q ∈ pairs ws ss sl k, Plain.Good q := by
  intro q hq
  simp only [pairs, List.mem_map] at hq
  obtain ⟨i, _, rfl⟩ := hq
  exact pair_good ws ss sl i

/-- The source is short. -/
theorem render_le (ws : List ByteArray) (ss : List Int) (sl k : Nat) (h : ∀ i, i < k → (ws.getD i ByteArray.empty).size ≤ 1024) : (render (pairs ws ss sl k)).length ≤ k * 2049 := by
  induction k with
  | zero => simp [pairs, render]
  | succ k ih =>
    rw [pairs_succ, render_snoc]
    have h1 := ih (fun i hi => h i (by omega))
    have h2 := (esc_len (pair ws ss sl k).2).2
    have h3 : (pair ws ss sl k).2.length = (ws.getD k ByteArray.empty).size := plainW_len _
    have h4 := h k (by omega)
    simp only [List.length_append, List.length_cons]
    omega
end Go.Proofs.Ybulkamxe
