/-
  THE PLAIN LAWS of seat b6618264a: no Go in sight. A text of bytes is a list of integers.
-/
namespace Go.Proofs.Qxb6618264a.Pl

theorem drop_cons (bs : List Int) (j : Nat) (h : j < bs.length) : bs.drop j = bs.getD j 0 :: bs.drop (j + 1) := by
  rw [List.drop_eq_getElem_cons h]
  simp [h]

/-! ### the string's end: how many bytes, from the first byte behind the opening quote on -/
def se : List Int → Nat
  | [] => 0
  | [_] => 1
  | c :: x :: r => if c = 92 then 2 + se r else if c = 34 then 1 else 1 + se (x :: r)

theorem se_nil : se [] = 0 := by simp [se]
theorem se_esc (r : List Int) : se (92 :: r) = min (2 + se (r.drop 1)) (r.length + 1) ∧ se r ≤ r.length := by
  have le : ∀ n, ∀ l : List Int, l.length ≤ n → se l ≤ l.length := by
    intro n
    induction n with
    | zero => intro l hl; match l, hl with | [], _ => simp [se]
    | succ n ih =>
      intro l hl
      match l, hl with
      | [], _ => simp [se]
      | [_], _ => simp [se]
      | c :: x :: r, hl =>
        have h1 := ih r (by simp at hl; omega)
        have h2 := ih (x :: r) (by simp at hl ⊢; omega)
        simp only [se]
        simp only [List.length_cons] at h2 ⊢
        split
        · omega
        · split <;> omega
  refine ⟨?_, le _ r (Nat.le_refl _)⟩
  match r with
  | [] => simp [se]
  | x :: r =>
    have := le _ r (Nat.le_refl _)
    simp only [se, if_true, List.drop_succ_cons, List.drop_zero, List.length_cons]
    omega
theorem se_le (l : List Int) : se l ≤ l.length := (se_esc l).2
theorem se_quote (r : List Int) : se (34 :: r) = 1 := by
  match r with
  | [] => simp [se]
  | x :: r => simp [se]
theorem se_other (c : Int) (r : List Int) (h1 : c ≠ 92) (h2 : c ≠ 34) : se (c :: r) = 1 + se r := by
  match r with
  | [] => simp [se]
  | x :: r => simp [se, h1, h2]

/-- From place j on: where the string ends. -/
def SE (bs : List Int) (j : Nat) : Nat := min (j + se (bs.drop j)) bs.length

theorem SE_esc (bs : List Int) (j : Nat) (h : j < bs.length) (hc : bs.getD j 0 = 92) : SE bs j = SE bs (j + 2) := by
  unfold SE
  rw [drop_cons bs j h, hc, (se_esc _).1]
  have hl : (bs.drop (j + 1)).length = bs.length - (j + 1) := by simp
  have hd : (bs.drop (j + 1)).drop 1 = bs.drop (j + 2) := by simp
  rw [hl, hd]
  have := se_le (bs.drop (j + 2))
  simp only [List.length_drop] at this
  omega
theorem SE_quote (bs : List Int) (j : Nat) (h : j < bs.length) (hc : bs.getD j 0 = 34) : SE bs j = j + 1 := by
  unfold SE
  rw [drop_cons bs j h, hc, se_quote]
  omega
theorem SE_other (bs : List Int) (j : Nat) (h : j < bs.length) (h1 : bs.getD j 0 ≠ 92) (h2 : bs.getD j 0 ≠ 34) : SE bs j = SE bs (j + 1) := by
  unfold SE
  rw [drop_cons bs j h, se_other _ _ h1 h2]
  omega
theorem SE_end (bs : List Int) (j : Nat) (h : bs.length ≤ j) : SE bs j = bs.length := by
  unfold SE; omega
theorem SE_ge (bs : List Int) (j : Nat) (h : j ≤ bs.length) : j ≤ SE bs j ∧ SE bs j ≤ bs.length := by
  unfold SE; omega
theorem SE_eq (bs : List Int) (j : Nat) (h : j ≤ bs.length) : SE bs j = j + se (bs.drop j) := by
  unfold SE
  have := se_le (bs.drop j)
  simp only [List.length_drop] at this
  omega

/-! ### the container's end: how many bytes, by one pass over the bytes: the depth, 'in a string', 'behind a backslash' -/
def nq (q e : Bool) (c : Int) : Bool := if q then (if e then true else if c = 92 then true else if c = 34 then false else true) else decide (c = 34)
def ne (q e : Bool) (c : Int) : Bool := if q then (if e then false else if c = 92 then true else false) else false
def ce (d : Int) (q e : Bool) : List Int → Nat
  | [] => 0
  | c :: r =>
    if q = true ∨ c = 34 then 1 + ce d (nq q e c) (ne q e c) r
    else if c = 123 ∨ c = 91 then 1 + ce (d + 1) false false r
    else if c = 125 ∨ c = 93 then (if d = 1 then 1 else 1 + ce (d - 1) false false r)
    else 1 + ce d false false r

theorem ff {c : Int} (h : c ≠ 34) : ¬ (false = true ∨ c = 34) := by simp [h]

theorem ce_le (l : List Int) : ∀ d q e, ce d q e l ≤ l.length := by
  induction l with
  | nil => intro d q e; simp [ce]
  | cons c r ih =>
    intro d q e
    simp only [ce, List.length_cons]
    have h1 := ih d (nq q e c) (ne q e c)
    have h2 := ih (d + 1) false false
    have h3 := ih (d - 1) false false
    have h4 := ih d false false
    split
    · omega
    · split
      · omega
      · split
        · split <;> omega
        · omega

/-- A string is passed over by its end. -/
theorem ce_str (d : Int) : ∀ n, ∀ l : List Int, l.length ≤ n → ce d true false l = se l + ce d false false (l.drop (se l)) := by
  intro n
  induction n with
  | zero => intro l hl; match l, hl with | [], _ => simp [se, ce]
  | succ n ih =>
    intro l hl
    match l, hl with
    | [], _ => simp [se, ce]
    | [c], _ => simp [se, ce]
    | c :: x :: r, hl =>
      have h1 := ih r (by simp at hl; omega)
      have h2 := ih (x :: r) (by simp at hl ⊢; omega)
      by_cases hc : c = 92
      · subst hc
        have e1 : se (92 :: x :: r) = 2 + se r := by simp [se]
        rw [e1, Nat.add_comm 2 (se r)]
        have e2 : ce d true false (92 :: x :: r) = 1 + (1 + ce d true false r) := by simp [ce, nq, ne]
        rw [e2, h1]
        simp only [List.drop_succ_cons]
        omega
      · by_cases hq : c = 34
        · subst hq
          rw [se_quote]
          simp [ce, nq, ne]
        · rw [se_other c _ hc hq, Nat.add_comm 1 (se (x :: r)), List.drop_succ_cons]
          have e2 : ce d true false (c :: x :: r) = 1 + ce d true false (x :: r) := by
            rw [ce, if_pos (Or.inl rfl)]
            simp [nq, ne, hc, hq]
          rw [e2, h2]
          omega

def CE (bs : List Int) (j : Nat) (d : Int) : Nat := j + ce d false false (bs.drop j)
theorem CE_quote (bs : List Int) (j : Nat) (d : Int) (h : j < bs.length) (hc : bs.getD j 0 = 34) : CE bs j d = CE bs (SE bs (j + 1)) d := by
  rw [SE_eq bs (j + 1) (by omega)]
  unfold CE
  rw [drop_cons bs j h, hc]
  have e : ce d false false (34 :: bs.drop (j + 1)) = 1 + ce d true false (bs.drop (j + 1)) := by simp [ce, nq, ne]
  rw [e, ce_str d _ _ (Nat.le_refl _), List.drop_drop]
  omega
theorem CE_open (bs : List Int) (j : Nat) (d : Int) (h : j < bs.length) (hc : bs.getD j 0 = 123 ∨ bs.getD j 0 = 91) : CE bs j d = CE bs (j + 1) (d + 1) := by
  unfold CE
  rw [drop_cons bs j h]
  have e : ce d false false (bs.getD j 0 :: bs.drop (j + 1)) = 1 + ce (d + 1) false false (bs.drop (j + 1)) := by
    rw [ce, if_neg (ff (by omega)), if_pos hc]
  rw [e]; omega
theorem CE_close (bs : List Int) (j : Nat) (d : Int) (h : j < bs.length) (hc : bs.getD j 0 = 125 ∨ bs.getD j 0 = 93) (hd : d ≠ 1) : CE bs j d = CE bs (j + 1) (d - 1) := by
  unfold CE
  rw [drop_cons bs j h]
  have e : ce d false false (bs.getD j 0 :: bs.drop (j + 1)) = 1 + ce (d - 1) false false (bs.drop (j + 1)) := by
    rw [ce, if_neg (ff (by omega)), if_neg (by omega), if_pos hc, if_neg hd]
  rw [e]; omega
theorem CE_done (bs : List Int) (j : Nat) (d : Int) (h : j < bs.length) (hc : bs.getD j 0 = 125 ∨ bs.getD j 0 = 93) (hd : d = 1) : CE bs j d = j + 1 := by
  unfold CE
  rw [drop_cons bs j h]
  have e : ce d false false (bs.getD j 0 :: bs.drop (j + 1)) = 1 := by
    rw [ce, if_neg (ff (by omega)), if_neg (by omega), if_pos hc, if_pos hd]
  rw [e]
theorem CE_other (bs : List Int) (j : Nat) (d : Int) (h : j < bs.length) (h1 : bs.getD j 0 ≠ 34) (h2 : ¬ (bs.getD j 0 = 123 ∨ bs.getD j 0 = 91)) (h3 : ¬ (bs.getD j 0 = 125 ∨ bs.getD j 0 = 93)) : CE bs j d = CE bs (j + 1) d := by
  unfold CE
  rw [drop_cons bs j h]
  have e : ce d false false (bs.getD j 0 :: bs.drop (j + 1)) = 1 + ce d false false (bs.drop (j + 1)) := by
    rw [ce, if_neg (ff (by omega)), if_neg h2, if_neg h3]
  rw [e]; omega
theorem CE_end (bs : List Int) (d : Int) : CE bs bs.length d = bs.length := by
  unfold CE; simp [ce]

/-! ### the model: two passes -/
def mk (q e : Bool) : List Int → List Bool
  | [] => []
  | c :: r => (q || decide (c = 34)) :: mk (nq q e c) (ne q e c) r
def c2 (d : Int) : List Int → List Bool → Nat
  | c :: r, m :: ms =>
    if m = true then 1 + c2 d r ms
    else if c = 123 ∨ c = 91 then 1 + c2 (d + 1) r ms
    else if c = 125 ∨ c = 93 then (if d = 1 then 1 else 1 + c2 (d - 1) r ms)
    else 1 + c2 d r ms
  | _, _ => 0

theorem length_mk (l : List Int) : ∀ q e, (mk q e l).length = l.length := by
  induction l with
  | nil => intro q e; rfl
  | cons c r ih => intro q e; simp [mk, ih]

theorem c2_mk (l : List Int) : ∀ d q e, c2 d l (mk q e l) = ce d q e l := by
  induction l with
  | nil => intro d q e; simp [c2, ce]
  | cons c r ih =>
    intro d q e
    simp only [mk, c2, ce, Bool.or_eq_true, decide_eq_true_eq]
    by_cases h : q = true ∨ c = 34
    · rw [if_pos h, if_pos h, ih]
    · rw [if_neg h, if_neg h]
      have hq : q = false := by simpa using fun hq => h (Or.inl hq)
      have hc : c ≠ 34 := fun hc => h (Or.inr hc)
      have e1 : nq q e c = false := by simp [nq, hq, hc]
      have e2 : ne q e c = false := by simp [ne, hq]
      rw [e1, e2, ih, ih, ih]

/-- The second pass, from place k on. -/
def C2 (xs : List Int) (ms : List Bool) (k : Nat) (d : Int) : Nat := k + c2 d (xs.drop k) (ms.drop k)

theorem dropB_cons (ms : List Bool) (j : Nat) (h : j < ms.length) : ms.drop j = ms.getD j false :: ms.drop (j + 1) := by
  rw [List.drop_eq_getElem_cons h]
  simp [h]

theorem C2_in (xs : List Int) (ms : List Bool) (k : Nat) (d : Int) (hl : ms.length = xs.length) (h : k < xs.length) (hm : ms.getD k false = true) : C2 xs ms k d = C2 xs ms (k + 1) d := by
  unfold C2
  rw [drop_cons xs k h, dropB_cons ms k (by omega), c2, if_pos hm]; omega
theorem C2_open (xs : List Int) (ms : List Bool) (k : Nat) (d : Int) (hl : ms.length = xs.length) (h : k < xs.length) (hm : ms.getD k false = false) (hc : xs.getD k 0 = 123 ∨ xs.getD k 0 = 91) : C2 xs ms k d = C2 xs ms (k + 1) (d + 1) := by
  unfold C2
  rw [drop_cons xs k h, dropB_cons ms k (by omega), c2, if_neg (by rw [hm]; simp), if_pos hc]; omega
theorem C2_close (xs : List Int) (ms : List Bool) (k : Nat) (d : Int) (hl : ms.length = xs.length) (h : k < xs.length) (hm : ms.getD k false = false) (hc : xs.getD k 0 = 125 ∨ xs.getD k 0 = 93) (hd : d ≠ 1) : C2 xs ms k d = C2 xs ms (k + 1) (d - 1) := by
  unfold C2
  rw [drop_cons xs k h, dropB_cons ms k (by omega), c2, if_neg (by rw [hm]; simp), if_neg (by omega), if_pos hc, if_neg hd]; omega
theorem C2_done (xs : List Int) (ms : List Bool) (k : Nat) (d : Int) (hl : ms.length = xs.length) (h : k < xs.length) (hm : ms.getD k false = false) (hc : xs.getD k 0 = 125 ∨ xs.getD k 0 = 93) (hd : d = 1) : C2 xs ms k d = k + 1 := by
  unfold C2
  rw [drop_cons xs k h, dropB_cons ms k (by omega), c2, if_neg (by rw [hm]; simp), if_neg (by omega), if_pos hc, if_pos hd]
theorem C2_other (xs : List Int) (ms : List Bool) (k : Nat) (d : Int) (hl : ms.length = xs.length) (h : k < xs.length) (hm : ms.getD k false = false) (h2 : ¬ (xs.getD k 0 = 123 ∨ xs.getD k 0 = 91)) (h3 : ¬ (xs.getD k 0 = 125 ∨ xs.getD k 0 = 93)) : C2 xs ms k d = C2 xs ms (k + 1) d := by
  unfold C2
  rw [drop_cons xs k h, dropB_cons ms k (by omega), c2, if_neg (by rw [hm]; simp), if_neg h2, if_neg h3]; omega
theorem C2_end (xs : List Int) (ms : List Bool) (d : Int) : C2 xs ms xs.length d = xs.length := by
  unfold C2
  simp only [List.drop_length]
  have : ∀ l, c2 d [] l = 0 := by intro l; cases l <;> rfl
  rw [this]; rfl

/-! ### the second statement's laws -/
theorem ce_pos (d : Int) (q e : Bool) (c : Int) (r : List Int) : 1 ≤ ce d q e (c :: r) := by
  simp only [ce]
  split
  · omega
  · split
    · omega
    · split
      · split <;> omega
      · omega

/-- Text behind does not turn the end, cut back. -/
theorem ce_ext (ys : List Int) (xs : List Int) : ∀ d q e, min (ce d q e (xs ++ ys)) xs.length = ce d q e xs := by
  induction xs with
  | nil => intro d q e; simp [ce]
  | cons c r ih =>
    intro d q e
    have h1 := ih d (nq q e c) (ne q e c)
    have h2 := ih (d + 1) false false
    have h3 := ih (d - 1) false false
    have h4 := ih d false false
    simp only [List.cons_append, ce, List.length_cons]
    split
    · omega
    · split
      · omega
      · split
        · split <;> omega
        · omega

/-- Where the end falls short, it stands just past a closing bracket. -/
theorem ce_last (xs : List Int) : ∀ d q e, ce d q e xs < xs.length → xs.getD (ce d q e xs - 1) 0 = 125 ∨ xs.getD (ce d q e xs - 1) 0 = 93 := by
  induction xs with
  | nil => intro d q e h; simp at h
  | cons c r ih =>
    intro d q e h
    have step : ∀ (n : Nat) (d' : Int) (q' e' : Bool), n = 1 + ce d' q' e' r → n < (c :: r).length → (c :: r).getD (n - 1) 0 = 125 ∨ (c :: r).getD (n - 1) 0 = 93 := by
      intro n d' q' e' hn hlt
      have hr := ih d' q' e' (by simp at hlt; omega)
      match r, hlt, hn, hr with
      | [], hlt, hn, _ => simp [ce] at hn hlt; omega
      | x :: r', hlt, hn, hr =>
        have hp := ce_pos d' q' e' x r'
        obtain ⟨m, hm⟩ : ∃ m, ce d' q' e' (x :: r') = m + 1 := ⟨_, (Nat.sub_add_cancel hp).symm⟩
        rw [hm] at hr
        have e1 : n - 1 = m + 1 := by omega
        rw [e1, List.getD_cons_succ]
        simpa using hr
    by_cases c1 : q = true ∨ c = 34
    · have e1 : ce d q e (c :: r) = 1 + ce d (nq q e c) (ne q e c) r := by rw [ce, if_pos c1]
      exact step _ _ _ _ e1 h
    · by_cases c2 : c = 123 ∨ c = 91
      · have e1 : ce d q e (c :: r) = 1 + ce (d + 1) false false r := by rw [ce, if_neg c1, if_pos c2]
        exact step _ _ _ _ e1 h
      · by_cases c3 : c = 125 ∨ c = 93
        · by_cases c4 : d = 1
          · have e1 : ce d q e (c :: r) = 1 := by rw [ce, if_neg c1, if_neg c2, if_pos c3, if_pos c4]
            rw [e1]
            simpa using c3
          · have e1 : ce d q e (c :: r) = 1 + ce (d - 1) false false r := by rw [ce, if_neg c1, if_neg c2, if_pos c3, if_neg c4]
            exact step _ _ _ _ e1 h
        · have e1 : ce d q e (c :: r) = 1 + ce d false false r := by rw [ce, if_neg c1, if_neg c2, if_neg c3]
          exact step _ _ _ _ e1 h

end Go.Proofs.Qxb6618264a.Pl
