/-
  THE PLAIN LAWS of seat b6618360a: no Go in sight. A text of bytes is a list of integers.
-/
namespace Go.Proofs.Qxb6618360a.Pl
set_option linter.unusedVariables false

theorem drop_cons (bs : List Int) (j : Nat) (h : j < bs.length) : bs.drop j = bs.getD j 0 :: bs.drop (j + 1) := by
  rw [List.drop_eq_getElem_cons h]
  simp [h]

/-- JSON's white space. -/
def ws (c : Int) : Bool := decide (c = 32 ∨ c = 9 ∨ c = 10 ∨ c = 13)

/-- The length of the run of white space at a list's head. -/
def rl : List Int → Nat
  | [] => 0
  | c :: r => if ws c = true then 1 + rl r else 0

theorem rl_le (l : List Int) : rl l ≤ l.length := by
  induction l with
  | nil => simp [rl]
  | cons c r ih =>
    simp only [rl, List.length_cons]
    split <;> omega

theorem rl_in (l : List Int) : ∀ p, p < rl l → ws (l.getD p 0) = true := by
  induction l with
  | nil => intro p hp; simp [rl] at hp
  | cons c r ih =>
    intro p hp
    by_cases h : ws c = true
    · rw [rl, if_pos h] at hp
      match p, hp with
      | 0, _ => simpa using h
      | p + 1, hp => rw [List.getD_cons_succ]; exact ih p (by omega)
    · rw [rl, if_neg h] at hp; omega

theorem rl_end (l : List Int) : rl l < l.length → ws (l.getD (rl l) 0) = false := by
  induction l with
  | nil => intro h; simp at h
  | cons c r ih =>
    intro h
    by_cases hc : ws c = true
    · have e : rl (c :: r) = rl r + 1 := by rw [rl, if_pos hc]; omega
      rw [e] at h ⊢
      rw [List.getD_cons_succ]
      exact ih (by simp at h; omega)
    · have e : rl (c :: r) = 0 := by rw [rl, if_neg hc]
      rw [e]
      simpa using hc

theorem rl_append (xs ys : List Int) : rl (xs ++ ys) = if rl xs < xs.length then rl xs else xs.length + rl ys := by
  induction xs with
  | nil => simp [rl]
  | cons c r ih =>
    by_cases hc : ws c = true
    · simp only [List.cons_append, rl, if_pos hc, List.length_cons, ih]
      by_cases h : rl r < r.length
      · rw [if_pos h, if_pos (by omega)]
      · rw [if_neg h, if_neg (by omega)]; omega
    · simp [rl, if_neg hc]

/-- Where the run that begins at i ends. -/
def SP (bs : List Int) (i : Nat) : Nat := i + rl (bs.drop i)

theorem SP_ge (bs : List Int) (i : Nat) : i ≤ SP bs i := by unfold SP; omega
theorem SP_le (bs : List Int) (i : Nat) (h : i ≤ bs.length) : SP bs i ≤ bs.length := by
  unfold SP
  have := rl_le (bs.drop i)
  simp only [List.length_drop] at this
  omega
theorem SP_past (bs : List Int) (i : Nat) (h : bs.length ≤ i) : SP bs i = i := by
  unfold SP
  rw [List.drop_of_length_le h]
  simp [rl]
theorem SP_step (bs : List Int) (i : Nat) (h : i < bs.length) (hw : ws (bs.getD i 0) = true) : SP bs i = SP bs (i + 1) := by
  unfold SP
  rw [drop_cons bs i h, rl, if_pos hw]; omega
theorem SP_stop (bs : List Int) (i : Nat) (h : i < bs.length) (hw : ws (bs.getD i 0) = false) : SP bs i = i := by
  unfold SP
  rw [drop_cons bs i h, rl, if_neg (by rw [hw]; simp)]; omega
theorem SP_in (bs : List Int) (i p : Nat) (h1 : i ≤ p) (h2 : p < SP bs i) : ws (bs.getD p 0) = true := by
  unfold SP at h2
  have := rl_in (bs.drop i) (p - i) (by omega)
  have e : (bs.drop i).getD (p - i) 0 = bs.getD p 0 := by simp [List.getD, show i + (p - i) = p by omega]
  rw [e] at this
  exact this
theorem SP_end (bs : List Int) (i : Nat) (h1 : i ≤ bs.length) (h2 : SP bs i < bs.length) : ws (bs.getD (SP bs i) 0) = false := by
  unfold SP at h2 ⊢
  have := rl_end (bs.drop i) (by simp only [List.length_drop]; omega)
  have e : (bs.drop i).getD (rl (bs.drop i)) 0 = bs.getD (i + rl (bs.drop i)) 0 := by simp [List.getD]
  rw [e] at this
  exact this
/-- The cut: i in the right part. -/
theorem SP_right (bs : List Int) (i k : Nat) (h : k ≤ i) : k + SP (bs.drop k) (i - k) = SP bs i := by
  unfold SP
  rw [List.drop_drop, show k + (i - k) = i by omega]; omega
/-- The cut: i in the left part. -/
theorem SP_left (bs : List Int) (i k : Nat) (h : i < k) (hk : k ≤ bs.length) :
    SP bs i = if SP (bs.take k) i < k then SP (bs.take k) i else k + SP (bs.drop k) 0 := by
  unfold SP
  have e : bs.drop i = (bs.take k).drop i ++ bs.drop k := by
    conv => lhs; rw [← List.take_append_drop k bs]
    rw [List.drop_append_of_le_length (by simp; omega)]
  rw [e, rl_append, List.drop_zero]
  have hl : ((bs.take k).drop i).length = k - i := by simp; omega
  rw [hl]
  have := rl_le ((bs.take k).drop i)
  rw [hl] at this
  by_cases c : rl ((bs.take k).drop i) < k - i
  · rw [if_pos c, if_pos (by omega)]
  · rw [if_neg c, if_neg (by omega)]; omega

end Go.Proofs.Qxb6618360a.Pl
