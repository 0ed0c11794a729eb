/-
  THE PLAIN LAWS of seat b6618356a: no Go in sight. Tags and places are lists of integers; m: the table's length, s: the slot that probing starts at.
-/
namespace Go.Proofs.Qxb6618356a.Pl
set_option linter.unusedVariables false

/-- A least number. -/
theorem least {p : Nat → Prop} (n : Nat) (h : p n) : ∃ d, d ≤ n ∧ p d ∧ ∀ j, j < d → ¬ p j := by
  have aux : ∀ k, (∃ d, d ≤ k ∧ p d ∧ ∀ j, j < d → ¬ p j) ∨ ∀ j, j ≤ k → ¬ p j := by
    intro k
    induction k with
    | zero =>
      by_cases h0 : p 0
      · exact Or.inl ⟨0, Nat.le_refl _, h0, fun j hj => absurd hj (Nat.not_lt_zero _)⟩
      · exact Or.inr fun j hj => by rw [Nat.le_zero.1 hj]; exact h0
    | succ k ih =>
      rcases ih with ⟨d, hd, hp, hl⟩ | hn
      · exact Or.inl ⟨d, by omega, hp, hl⟩
      · by_cases hk : p (k + 1)
        · exact Or.inl ⟨k + 1, Nat.le_refl _, hk, fun j hj => hn j (by omega)⟩
        · refine Or.inr fun j hj => ?_
          by_cases e : j = k + 1
          · rw [e]; exact hk
          · exact hn j (by omega)
  rcases aux n with h' | h'
  · exact h'
  · exact absurd h (h' n (Nat.le_refl _))

/-- How far slot k lies from s, going forward and around. -/
def dist (m s k : Nat) : Nat := (k + m - s) % m

theorem dist_lt (m s k : Nat) (hm : 0 < m) : dist m s k < m := Nat.mod_lt _ hm
theorem add_dist (m s k : Nat) (hs : s < m) (hk : k < m) : (s + dist m s k) % m = k := by
  unfold dist
  rcases Nat.lt_or_ge k s with h | h
  · rw [Nat.mod_eq_of_lt (a := k + m - s) (by omega), show s + (k + m - s) = k + m by omega, Nat.add_mod_right, Nat.mod_eq_of_lt hk]
  · rw [show k + m - s = (k - s) + m by omega, Nat.add_mod_right, Nat.mod_eq_of_lt (a := k - s) (by omega), show s + (k - s) = k by omega, Nat.mod_eq_of_lt hk]
theorem dist_add (m s d : Nat) (hs : s < m) (hd : d < m) : dist m s ((s + d) % m) = d := by
  unfold dist
  rcases Nat.lt_or_ge (s + d) m with h | h
  · rw [Nat.mod_eq_of_lt h, show s + d + m - s = d + m by omega, Nat.add_mod_right, Nat.mod_eq_of_lt hd]
  · have e : (s + d) % m = s + d - m := by
      rw [show s + d = (s + d - m) + m by omega, Nat.add_mod_right, Nat.mod_eq_of_lt (by omega)]
      omega
    rw [e, show s + d - m + m - s = d by omega, Nat.mod_eq_of_lt hd]

/-- D: the distance of the first empty slot. -/
def First (ts : List Int) (m s D : Nat) : Prop := D < m ∧ ts.getD ((s + D) % m) 0 = 0 ∧ ∀ d, d < D → ts.getD ((s + d) % m) 0 ≠ 0

theorem first_exists (ts : List Int) (m s : Nat) (hs : s < m) (h : ∃ k, k < m ∧ ts.getD k 0 = 0) : ∃ D, First ts m s D := by
  obtain ⟨k, hk, h0⟩ := h
  obtain ⟨D, hD, hp, hl⟩ := least (p := fun d => ts.getD ((s + d) % m) 0 = 0) (dist m s k) (by rw [add_dist m s k hs hk]; exact h0)
  exact ⟨D, by have := dist_lt m s k (by omega); omega, hp, hl⟩

/-- The law's own loop, behind k rounds. -/
def Best (ts : List Int) (m s k : Nat) (best : Int) (bd : Nat) : Prop :=
  (best = -1 ∧ bd = m ∧ ∀ j, j < k → ts.getD j 0 ≠ 0) ∨
  ∃ b : Nat, best = b ∧ b < k ∧ ts.getD b 0 = 0 ∧ bd = dist m s b ∧ ∀ j, j < k → ts.getD j 0 = 0 → bd ≤ dist m s j

theorem Best.start (ts : List Int) (m s : Nat) : Best ts m s 0 (-1) m := Or.inl ⟨rfl, rfl, fun j hj => absurd hj (Nat.not_lt_zero _)⟩
theorem Best.full {ts : List Int} {m s k bd : Nat} {best : Int} (h : Best ts m s k best bd) (hk : ts.getD k 0 ≠ 0) : Best ts m s (k + 1) best bd := by
  rcases h with ⟨h1, h2, h3⟩ | ⟨b, h1, h2, h3, h4, h5⟩
  · refine Or.inl ⟨h1, h2, fun j hj => ?_⟩
    by_cases e : j = k
    · rw [e]; exact hk
    · exact h3 j (by omega)
  · refine Or.inr ⟨b, h1, by omega, h3, h4, fun j hj h0 => ?_⟩
    by_cases e : j = k
    · rw [e] at h0; exact absurd h0 hk
    · exact h5 j (by omega) h0
theorem Best.nearer {ts : List Int} {m s k bd : Nat} {best : Int} (h : Best ts m s k best bd) (h0 : ts.getD k 0 = 0) (hd : dist m s k < bd) : Best ts m s (k + 1) (k : Int) (dist m s k) := by
  refine Or.inr ⟨k, rfl, by omega, h0, rfl, fun j hj hj0 => ?_⟩
  by_cases e : j = k
  · rw [e]; exact Nat.le_refl _
  · rcases h with ⟨h1, h2, h3⟩ | ⟨b, h1, h2, h3, h4, h5⟩
    · exact absurd hj0 (h3 j (by omega))
    · have := h5 j (by omega) hj0; omega
theorem Best.farther {ts : List Int} {m s k bd : Nat} {best : Int} (h : Best ts m s k best bd) (hm : 0 < m) (hd : ¬ dist m s k < bd) : Best ts m s (k + 1) best bd := by
  rcases h with ⟨h1, h2, h3⟩ | ⟨b, h1, h2, h3, h4, h5⟩
  · have := dist_lt m s k hm; omega
  · refine Or.inr ⟨b, h1, by omega, h3, h4, fun j hj hj0 => ?_⟩
    by_cases e : j = k
    · rw [e]; omega
    · exact h5 j (by omega) hj0
theorem Best.le {ts : List Int} {m s k bd : Nat} {best : Int} (h : Best ts m s k best bd) (hm : 0 < m) : bd ≤ m ∧ -1 ≤ best ∧ best < (k : Int) ∨ best = -1 ∧ bd ≤ m := by
  rcases h with ⟨h1, h2, h3⟩ | ⟨b, h1, h2, h3, h4, h5⟩
  · exact Or.inr ⟨h1, by omega⟩
  · have := dist_lt m s b hm
    exact Or.inl ⟨by omega, by omega, by omega⟩

/-- Both find the same slot. -/
theorem best_first {ts : List Int} {m s D bd : Nat} {best : Int} (hs : s < m) (hF : First ts m s D) (h : Best ts m s m best bd) : best = (((s + D) % m : Nat) : Int) := by
  obtain ⟨hD, h0, hl⟩ := hF
  have hi : (s + D) % m < m := Nat.mod_lt _ (by omega)
  rcases h with ⟨h1, h2, h3⟩ | ⟨b, h1, h2, h3, h4, h5⟩
  · exact absurd h0 (h3 _ hi)
  · have q1 := h5 _ hi h0
    rw [dist_add m s D hs hD] at q1
    have q2 : ¬ dist m s b < D := fun hlt => hl _ hlt (by rw [add_dist m s b hs h2]; exact h3)
    have e : D = dist m s b := by omega
    rw [h1, e, add_dist m s b hs h2]

/-! ### bits -/
theorem pow_of (m : Nat) (h0 : m ≠ 0) (h : m &&& (m - 1) = 0) : ∃ e, m = 2 ^ e := (Nat.and_sub_one_eq_zero_iff_isPowerOfTwo h0).1 h
theorem mask (m x : Nat) (h : ∃ e, m = 2 ^ e) : x &&& (m - 1) = x % m := by
  obtain ⟨e, rfl⟩ := h
  exact Nat.and_two_pow_sub_one_eq_mod x e
theorem next (m s d : Nat) : ((s + d) % m + 1) % m = (s + (d + 1)) % m := by
  rw [Nat.mod_add_mod, Nat.add_assoc]

end Go.Proofs.Qxb6618356a.Pl
