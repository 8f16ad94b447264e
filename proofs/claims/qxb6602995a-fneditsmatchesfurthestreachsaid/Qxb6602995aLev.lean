/- The plain law of edit distances: no Go in sight. -/
namespace Go.Proofs.Qxb6602995a.Lev

/-- The edits that turn the first i characters of x into the first j of y. -/
def lev (x y : Nat → Int) : Nat → Nat → Nat
  | 0, j => j
  | i + 1, 0 => i + 1
  | i + 1, j + 1 => min (min (lev x y i (j + 1) + 1) (lev x y (i + 1) j + 1)) (lev x y i j + if x i = y j then 0 else 1)

theorem lev_zero (x y : Nat → Int) (j : Nat) : lev x y 0 j = j := by rw [lev]
theorem lev_zero_right (x y : Nat → Int) (i : Nat) : lev x y i 0 = i := by
  cases i with
  | zero => rw [lev]
  | succ i => rw [lev]
theorem lev_succ (x y : Nat → Int) (i j : Nat) :
    lev x y (i + 1) (j + 1) = min (min (lev x y i (j + 1) + 1) (lev x y (i + 1) j + 1)) (lev x y i j + if x i = y j then 0 else 1) := by rw [lev]

theorem lev_symm (x y : Nat → Int) : ∀ s i j, i + j ≤ s → lev x y i j = lev y x j i := by
  intro s
  induction s with
  | zero =>
    intro i j h
    obtain rfl : i = 0 := by omega
    obtain rfl : j = 0 := by omega
    rw [lev_zero, lev_zero]
  | succ s ih =>
    intro i j h
    cases i with
    | zero => rw [lev_zero, lev_zero_right]
    | succ i =>
      cases j with
      | zero => rw [lev_zero, lev_zero_right]
      | succ j =>
        rw [lev_succ, lev_succ, ih i (j + 1) (by omega), ih (i + 1) j (by omega), ih i j (by omega)]
        have e : (if x i = y j then (0 : Nat) else 1) = if y j = x i then 0 else 1 := by
          by_cases hxy : x i = y j
          · rw [if_pos hxy, if_pos hxy.symm]
          · rw [if_neg hxy, if_neg (fun k => hxy k.symm)]
        rw [e]
        omega

theorem lev_comm (x y : Nat → Int) (i j : Nat) : lev x y i j = lev y x j i := lev_symm x y _ i j (Nat.le_refl _)

theorem one_le (p : Prop) [Decidable p] : (if p then (0 : Nat) else 1) ≤ 1 := by split <;> omega

theorem up_left (x y : Nat → Int) (i j : Nat) : lev x y (i + 1) j ≤ lev x y i j + 1 := by
  cases j with
  | zero => rw [lev_zero_right, lev_zero_right]; omega
  | succ j => rw [lev_succ]; omega

theorem up_right (x y : Nat → Int) (i j : Nat) : lev x y i (j + 1) ≤ lev x y i j + 1 := by
  cases i with
  | zero => rw [lev_zero, lev_zero]; omega
  | succ i => rw [lev_succ]; omega

theorem down_left (x y : Nat → Int) (i j : Nat) : lev x y i j ≤ lev x y (i + 1) j + 1 := by
  induction j with
  | zero => rw [lev_zero_right, lev_zero_right]; omega
  | succ j ih =>
    have h := up_right x y i j
    rw [lev_succ]
    omega

theorem down_right (x y : Nat → Int) (i j : Nat) : lev x y i j ≤ lev x y i (j + 1) + 1 := by
  rw [lev_comm x y i j, lev_comm x y i (j + 1)]
  exact down_left y x j i

/-- One more character of x or of y, or of both: one edit more or fewer at most; of both: never fewer. -/
theorem near (x y : Nat → Int) (i j : Nat) :
    lev x y (i + 1) j ≤ lev x y i j + 1 ∧ lev x y i j ≤ lev x y (i + 1) j + 1 ∧ lev x y i (j + 1) ≤ lev x y i j + 1 ∧ lev x y i j ≤ lev x y i (j + 1) + 1 ∧
      lev x y i j ≤ lev x y (i + 1) (j + 1) ∧ lev x y (i + 1) (j + 1) ≤ lev x y i j + 1 := by
  have h1 := up_left x y i j
  have h2 := up_right x y i j
  have h3 := down_left x y i j
  have h4 := down_right x y i j
  have h5 := one_le (x i = y j)
  refine ⟨h1, h3, h2, h4, ?_, ?_⟩ <;> (rw [lev_succ]; omega)

/-- At least the difference of the lengths. -/
theorem lev_gap (x y : Nat → Int) : ∀ i j, i ≤ j + lev x y i j ∧ j ≤ i + lev x y i j := by
  intro i
  induction i with
  | zero => intro j; rw [lev_zero]; omega
  | succ i ih =>
    intro j
    induction j with
    | zero => rw [lev_zero_right]; omega
    | succ j jh =>
      have h1 := ih (j + 1)
      have h2 := ih j
      rw [lev_succ]
      split <;> omega

/-- How many of the first k characters differ. -/
def mis (x y : Nat → Int) : Nat → Nat
  | 0 => 0
  | k + 1 => mis x y k + if x k = y k then 0 else 1

theorem mis_le (x y : Nat → Int) (k : Nat) : mis x y k ≤ k := by
  induction k with
  | zero => simp [mis]
  | succ k ih => rw [mis]; split <;> omega

theorem lev_mis (x y : Nat → Int) (k : Nat) : lev x y k k ≤ mis x y k := by
  induction k with
  | zero => rw [lev_zero, mis]; omega
  | succ k ih => rw [lev_succ, mis]; omega

theorem lev_more (x y : Nat → Int) (i j d : Nat) : lev x y (i + d) j ≤ lev x y i j + d ∧ lev x y i (j + d) ≤ lev x y i j + d := by
  induction d with
  | zero => simp
  | succ d ih =>
    have h1 := up_left x y (i + d) j
    have h2 := up_right x y i (j + d)
    rw [← Nat.add_assoc i d 1, ← Nat.add_assoc j d 1]
    omega

theorem lev_diag_zero (x y : Nat → Int) (k : Nat) (h : lev x y k k = 0) : mis x y k = 0 := by
  induction k with
  | zero => rw [mis]
  | succ k ih =>
    rw [lev_succ] at h
    rw [mis]
    split at h
    · rename_i e
      rw [if_pos e, ih (by omega)]
    · omega

theorem lev_le_max (x y : Nat → Int) (i j : Nat) : lev x y i j ≤ i + j := by
  have := (lev_more x y 0 j i).1
  rw [lev_zero] at this
  rw [Nat.zero_add] at this
  omega

/-- THE LAW: what the Go law asks of e = lev x y n m. -/
theorem law (x y : Nat → Int) (n m : Nat) :
    lev x y n m = lev y x m n ∧ m - n ≤ lev x y n m ∧ n - m ≤ lev x y n m ∧ lev x y n m ≤ mis x y (min n m) + ((m - n) + (n - m)) ∧
      (lev x y n m = 0 ↔ n = m ∧ mis x y (min n m) = 0) := by
  have hg := lev_gap x y n m
  have hup : lev x y n m ≤ mis x y (min n m) + ((m - n) + (n - m)) := by
    have h0 := lev_mis x y (min n m)
    by_cases h : n ≤ m
    · have e : min n m = n := Nat.min_eq_left h
      have h1 := (lev_more x y n n (m - n)).2
      rw [show n + (m - n) = m by omega] at h1
      rw [e] at h0 ⊢
      omega
    · have e : min n m = m := Nat.min_eq_right (by omega)
      have h1 := (lev_more x y m m (n - m)).1
      rw [show m + (n - m) = n by omega] at h1
      rw [e] at h0 ⊢
      omega
  refine ⟨lev_comm x y n m, by omega, by omega, hup, ?_, ?_⟩
  · intro h
    obtain rfl : n = m := by omega
    rw [Nat.min_self]
    exact ⟨rfl, lev_diag_zero x y n h⟩
  · rintro ⟨rfl, h⟩
    omega
end Go.Proofs.Qxb6602995a.Lev
