/- The plain law of the furthest-reaching search over diagonals: no Go in sight. -/
import Derived.Test.Qxb6602995aLev
namespace Go.Proofs.Qxb6602995a.Lev

/-- From place (i, j) on along equal characters. -/
def slide (x y : Nat → Int) (n m : Nat) : Nat → Nat → Nat → Nat
  | 0, i, _ => i
  | f + 1, i, j => if i < n ∧ j < m ∧ x i = y j then slide x y n m f (i + 1) (j + 1) else i

section
variable (x y : Nat → Int) (n m : Nat)

theorem slide_ge : ∀ f i j, i ≤ slide x y n m f i j := by
  intro f
  induction f with
  | zero => intro i j; exact Nat.le_refl _
  | succ f ih =>
    intro i j
    rw [slide]
    split
    · have := ih (i + 1) (j + 1); omega
    · exact Nat.le_refl _

/-- What the slide reaches costs no more, and lies within the two texts. -/
theorem slide_ok : ∀ f i j, i ≤ n → j ≤ m → slide x y n m f i j ≤ n ∧ j + slide x y n m f i j ≤ m + i ∧ lev x y (slide x y n m f i j) (j + slide x y n m f i j - i) ≤ lev x y i j := by
  intro f
  induction f with
  | zero => intro i j hi hj; rw [slide, Nat.add_sub_cancel]; exact ⟨hi, by omega, Nat.le_refl _⟩
  | succ f ih =>
    intro i j hi hj
    rw [slide]
    split
    · rename_i h
      obtain ⟨a, b, c⟩ := ih (i + 1) (j + 1) (by omega) (by omega)
      have hg := slide_ge x y n m f (i + 1) (j + 1)
      refine ⟨a, by omega, ?_⟩
      have e : j + slide x y n m f (i + 1) (j + 1) - i = j + 1 + slide x y n m f (i + 1) (j + 1) - (i + 1) := by omega
      rw [e]
      refine Nat.le_trans c ?_
      rw [lev_succ, if_pos h.2.2]
      omega
    · rw [Nat.add_sub_cancel]
      exact ⟨hi, by omega, Nat.le_refl _⟩

/-- It does not stop among equal characters. -/
theorem slide_max : ∀ f i j c, i + c ≤ n → j + c ≤ m → c ≤ f → (∀ t, t < c → x (i + t) = y (j + t)) → i + c ≤ slide x y n m f i j := by
  intro f
  induction f with
  | zero => intro i j c _ _ h _; rw [slide]; omega
  | succ f ih =>
    intro i j c h1 h2 h3 h4
    cases c with
    | zero => exact slide_ge x y n m _ i j
    | succ c =>
      rw [slide, if_pos ⟨by omega, by omega, by simpa using h4 0 (by omega)⟩]
      have := ih (i + 1) (j + 1) c (by omega) (by omega) (by omega) (fun t ht => by
        have := h4 (t + 1) (by omega)
        rw [show i + 1 + t = i + (t + 1) by omega, show j + 1 + t = j + (t + 1) by omega]
        exact this)
      omega

/-- Where the run of equal characters that ends at (i, j) begins. -/
theorem back (i j : Nat) : ∃ c, c ≤ i ∧ c ≤ j ∧ (∀ t, t < c → x (i - c + t) = y (j - c + t)) ∧ (i - c = 0 ∨ j - c = 0 ∨ x (i - c - 1) ≠ y (j - c - 1)) ∧ lev x y (i - c) (j - c) ≤ lev x y i j := by
  induction i generalizing j with
  | zero => exact ⟨0, by omega, by omega, fun t ht => by omega, .inl rfl, Nat.le_refl _⟩
  | succ i ih =>
    cases j with
    | zero => exact ⟨0, by omega, by omega, fun t ht => by omega, .inr (.inl rfl), Nat.le_refl _⟩
    | succ j =>
      by_cases h : x i = y j
      · obtain ⟨c, h1, h2, h3, h4, h5⟩ := ih j
        refine ⟨c + 1, by omega, by omega, fun t ht => ?_, ?_, ?_⟩
        · rw [show i + 1 - (c + 1) = i - c by omega, show j + 1 - (c + 1) = j - c by omega]
          by_cases e : t = c
          · subst e
            rw [show i - t + t = i by omega, show j - t + t = j by omega]
            exact h
          · exact h3 t (by omega)
        · rw [show i + 1 - (c + 1) = i - c by omega, show j + 1 - (c + 1) = j - c by omega]
          exact h4
        · rw [show i + 1 - (c + 1) = i - c by omega, show j + 1 - (c + 1) = j - c by omega]
          exact Nat.le_trans h5 (near x y i j).2.2.2.2.1
      · exact ⟨0, by omega, by omega, fun t ht => by omega, .inr (.inr (by simpa using h)), Nat.le_refl _⟩

/-- The value v at diagonal index t stands for no place, or for one within the texts that costs at most d. -/
def Ok (d : Nat) (v : Int) (t : Nat) : Prop := v = -1 ∨ ∃ i j : Nat, v = i ∧ i ≤ n ∧ j ≤ m ∧ j + n = i + t ∧ lev x y i j ≤ d

def Sound (d : Nat) (P : Nat → Int) : Prop := ∀ t, t ≤ n + m → Ok x y n m d (P t) t

def Complete (d : Nat) (P : Nat → Int) : Prop := ∀ i j, i ≤ n → j ≤ m → lev x y i j ≤ d → (∀ j', n + j < j' + i → j' ≤ m → d < lev x y n j') → (∀ i', m + i < i' + j → i' ≤ n → d < lev x y i' m) → (i : Int) ≤ P (j + n - i)

/-- One step at diagonal index t, as the Go text takes it. -/
def b1 (P : Nat → Int) (t : Nat) : Int := if 0 ≤ P t ∧ P t < n ∧ P t + ((t : Int) - n) < m then P t + 1 else P t
def b2 (P : Nat → Int) (t : Nat) : Int := if 1 ≤ t ∧ 0 ≤ P (t - 1) ∧ P (t - 1) + ((t : Int) - n) ≤ m ∧ b1 n m P t < P (t - 1) then P (t - 1) else b1 n m P t
def b3 (P : Nat → Int) (t : Nat) : Int := if t + 1 ≤ n + m ∧ 0 ≤ P (t + 1) ∧ P (t + 1) < n ∧ b2 n m P t < P (t + 1) + 1 then P (t + 1) + 1 else b2 n m P t
def stepV (P : Nat → Int) (t : Nat) : Int := if 0 ≤ b3 n m P t then (slide x y n m n (b3 n m P t).toNat (b3 n m P t + ((t : Int) - n)).toNat : Int) else b3 n m P t

theorem Ok.up {x y : Nat → Int} {n m d t : Nat} {v : Int} (h : Ok x y n m d v t) : Ok x y n m (d + 1) v t := by
  rcases h with h | ⟨i, j, h1, h2, h3, h4, h5⟩
  · exact .inl h
  · exact .inr ⟨i, j, h1, h2, h3, h4, by omega⟩

theorem b1_ge (P : Nat → Int) (t : Nat) : P t ≤ b1 n m P t := by unfold b1; split <;> omega
theorem b2_ge (P : Nat → Int) (t : Nat) : b1 n m P t ≤ b2 n m P t := by unfold b2; split <;> omega
theorem b3_ge (P : Nat → Int) (t : Nat) : b2 n m P t ≤ b3 n m P t := by unfold b3; split <;> omega

theorem b1_ok {d t : Nat} {P : Nat → Int} (hS : Sound x y n m d P) (ht : t ≤ n + m) : Ok x y n m (d + 1) (b1 n m P t) t := by
  unfold b1
  split
  · rename_i h
    rcases hS t ht with h0 | ⟨i, j, h1, h2, h3, h4, h5⟩
    · omega
    · have := near x y i j
      exact .inr ⟨i + 1, j + 1, by omega, by omega, by omega, by omega, by omega⟩
  · exact (hS t ht).up

theorem b2_ok {d t : Nat} {P : Nat → Int} (hS : Sound x y n m d P) (ht : t ≤ n + m) : Ok x y n m (d + 1) (b2 n m P t) t := by
  unfold b2
  split
  · rename_i h
    rcases hS (t - 1) (by omega) with h0 | ⟨i, j, h1, h2, h3, h4, h5⟩
    · omega
    · have := near x y i j
      exact .inr ⟨i, j + 1, by omega, by omega, by omega, by omega, by omega⟩
  · exact b1_ok x y n m hS ht

theorem b3_ok {d t : Nat} {P : Nat → Int} (hS : Sound x y n m d P) (ht : t ≤ n + m) : Ok x y n m (d + 1) (b3 n m P t) t := by
  unfold b3
  split
  · rename_i h
    rcases hS (t + 1) h.1 with h0 | ⟨i, j, h1, h2, h3, h4, h5⟩
    · omega
    · have := near x y i j
      exact .inr ⟨i + 1, j, by omega, by omega, by omega, by omega, by omega⟩
  · exact b2_ok x y n m hS ht

theorem step_ok {d t : Nat} {P : Nat → Int} (hS : Sound x y n m d P) (ht : t ≤ n + m) : Ok x y n m (d + 1) (stepV x y n m P t) t := by
  unfold stepV
  split
  · rename_i h
    rcases b3_ok x y n m hS ht with h0 | ⟨i, j, h1, h2, h3, h4, h5⟩
    · omega
    · have e1 : (b3 n m P t).toNat = i := by omega
      have e2 : (b3 n m P t + ((t : Int) - n)).toNat = j := by omega
      rw [e1, e2]
      obtain ⟨a, b, c⟩ := slide_ok x y n m n i j h2 h3
      have hg := slide_ge x y n m n i j
      exact .inr ⟨_, j + slide x y n m n i j - i, rfl, a, by omega, by omega, by omega⟩
  · exact b3_ok x y n m hS ht

set_option maxHeartbeats 2000000 in
/-- The step is complete on the diagonals that matter. -/
theorem step_complete {d : Nat} {P : Nat → Int} (hS : Sound x y n m d P) (hC : Complete x y n m d P) (i j : Nat) (hi : i ≤ n) (hj : j ≤ m) (hl : lev x y i j ≤ d + 1)
    (w1 : ∀ j', n + j < j' + i → j' ≤ m → d + 1 < lev x y n j') (w2 : ∀ i', m + i < i' + j → i' ≤ n → d + 1 < lev x y i' m) : (i : Int) ≤ stepV x y n m P (j + n - i) := by
  obtain ⟨c, c1, c2, c3, c4, c5⟩ := back x y i j
  obtain ⟨i0, hi0⟩ : ∃ i0, i0 = i - c := ⟨_, rfl⟩
  obtain ⟨j0, hj0⟩ : ∃ j0, j0 = j - c := ⟨_, rfl⟩
  rw [← hi0, ← hj0] at c3 c4 c5
  obtain ⟨t, ht⟩ : ∃ t, t = j + n - i := ⟨_, rfl⟩
  rw [← ht]
  have htm : t ≤ n + m := by omega
  have g1 := b1_ge n m P t
  have g2 := b2_ge n m P t
  have g3 := b3_ge n m P t
  -- what is enough: the value ahead of the slide lies at i0 or beyond
  have enough : (i0 : Int) ≤ b3 n m P t → (i : Int) ≤ stepV x y n m P t := by
    intro h
    unfold stepV
    rw [if_pos (by omega)]
    rcases b3_ok x y n m hS htm with h0 | ⟨a, b, h1, h2, h3, h4, h5⟩
    · omega
    · have e1 : (b3 n m P t).toNat = a := by omega
      have e2 : (b3 n m P t + ((t : Int) - n)).toNat = b := by omega
      rw [e1, e2]
      by_cases hia : i ≤ a
      · have := slide_ge x y n m n a b
        omega
      · have := slide_max x y n m n a b (i - a) (by omega) (by omega) (by omega) (fun s hs => by
          have := c3 (a - i0 + s) (by omega)
          rw [show i0 + (a - i0 + s) = a + s by omega, show j0 + (a - i0 + s) = b + s by omega] at this
          exact this)
        omega
  apply enough
  by_cases hA : n + j - i ≤ m ∧ lev x y n (n + j - i) ≤ d
  · have := hC n (n + j - i) (Nat.le_refl _) hA.1 hA.2 (fun j' h h' => by have := w1 j' (by omega) h'; omega) (fun i' h h' => by omega)
    rw [show n + j - i + n - n = t by omega] at this
    omega
  by_cases hB : m + i - j ≤ n ∧ lev x y (m + i - j) m ≤ d
  · have := hC (m + i - j) m hB.1 (Nat.le_refl _) hB.2 (fun j' h h' => by omega) (fun i' h h' => by have := w2 i' (by omega) h'; omega)
    rw [show m + n - (m + i - j) = t by omega] at this
    omega
  -- an insertion leads to (i0, j0)
  have ins : ∀ q, j0 = q + 1 → lev x y i0 q ≤ d → (i0 : Int) ≤ b3 n m P t := by
    intro q hq hlq
    have hc := hC i0 q (by omega) (by omega) hlq (fun j' h h' => by
      by_cases e : j' = n + j - i
      · subst e
        rcases Nat.lt_or_ge d (lev x y n (n + j - i)) with h2 | h2
        · exact h2
        · exact absurd ⟨h', h2⟩ hA
      · have := w1 j' (by omega) h'; omega) (fun i' h h' => by have := w2 i' (by omega) h'; omega)
    rw [show q + n - i0 = t - 1 by omega] at hc
    rcases hS (t - 1) (by omega) with h0 | ⟨a, b, h1, h2, h3, h4, h5⟩
    · omega
    · have hb : b + 1 ≤ m := by
        rcases Nat.lt_or_ge b m with h6 | h6
        · exact h6
        · obtain rfl : b = m := by omega
          have := w2 a (by omega) h2
          omega
      have : P (t - 1) ≤ b2 n m P t := by
        unfold b2
        split
        · exact Int.le_refl _
        · rename_i h6
          have : ¬ b1 n m P t < P (t - 1) := fun h7 => h6 ⟨by omega, by omega, by omega, h7⟩
          omega
      omega
  -- a deletion leads to (i0, j0)
  have del : ∀ p, i0 = p + 1 → lev x y p j0 ≤ d → (i0 : Int) ≤ b3 n m P t := by
    intro p hp hlp
    have hc := hC p j0 (by omega) (by omega) hlp (fun j' h h' => by have := w1 j' (by omega) h'; omega) (fun i' h h' => by
      by_cases e : i' = m + i - j
      · subst e
        rcases Nat.lt_or_ge d (lev x y (m + i - j) m) with h2 | h2
        · exact h2
        · exact absurd ⟨h', h2⟩ hB
      · have := w2 i' (by omega) h'; omega)
    rw [show j0 + n - p = t + 1 by omega] at hc
    rcases hS (t + 1) (by omega) with h0 | ⟨a, b, h1, h2, h3, h4, h5⟩
    · omega
    · have ha : a < n := by
        rcases Nat.lt_or_ge a n with h6 | h6
        · exact h6
        · obtain rfl : a = n := by omega
          have := w1 b (by omega) h3
          omega
      have : P (t + 1) + 1 ≤ b3 n m P t := by
        unfold b3
        split
        · exact Int.le_refl _
        · rename_i h6
          have : ¬ b2 n m P t < P (t + 1) + 1 := fun h7 => h6 ⟨by omega, by omega, by omega, h7⟩
          omega
      omega
  -- the same diagonal
  have same : ∀ p q, p ≤ i0 → q ≤ j0 → i0 - p = j0 - q → lev x y p q ≤ d → (p : Int) ≤ P t := by
    intro p q h1 h2 h3 h4
    have := hC p q (by omega) (by omega) h4 (fun j' h h' => by have := w1 j' (by omega) h'; omega) (fun i' h h' => by have := w2 i' (by omega) h'; omega)
    rw [show q + n - p = t by omega] at this
    exact this
  cases i0 with
  | zero =>
    cases j0 with
    | zero =>
      have := same 0 0 (by omega) (by omega) rfl (by rw [lev_zero]; omega)
      omega
    | succ q => exact ins q rfl (by rw [lev_zero] at c5 ⊢; omega)
  | succ p =>
    cases j0 with
    | zero => exact del p rfl (by rw [lev_zero_right] at c5 ⊢; omega)
    | succ q =>
      have hne : x p ≠ y q := by
        rcases c4 with h | h | h
        · omega
        · omega
        · simpa using h
      rw [lev_succ, if_neg hne] at c5
      by_cases k1 : lev x y p (q + 1) ≤ d
      · exact del p rfl k1
      by_cases k2 : lev x y (p + 1) q ≤ d
      · exact ins q rfl k2
      have k3 : lev x y p q ≤ d := by omega
      have hp := same p q (by omega) (by omega) (by omega) k3
      rcases hS t htm with h0 | ⟨a, b, h1, h2, h3, h4, h5⟩
      · omega
      · have : ((p + 1 : Nat) : Int) ≤ b1 n m P t := by
          unfold b1
          split
          · omega
          · rename_i h6
            by_cases e : a = n
            · omega
            · have : ¬ (b < m) := fun h7 => h6 ⟨by omega, by omega, by omega⟩
              omega
        omega

/-- One whole round: the diagonals within d + 1 of the first are stepped, the others stand for no place. -/
def roundV (d : Nat) (P : Nat → Int) (t : Nat) : Int := if n ≤ t + (d + 1) ∧ t ≤ n + (d + 1) then stepV x y n m P t else -1

theorem round_sound {d : Nat} {P : Nat → Int} (hS : Sound x y n m d P) : Sound x y n m (d + 1) (roundV x y n m d P) := by
  intro t ht
  unfold roundV
  split
  · exact step_ok x y n m hS ht
  · exact .inl rfl

theorem round_complete {d : Nat} {P : Nat → Int} (hS : Sound x y n m d P) (hC : Complete x y n m d P) : Complete x y n m (d + 1) (roundV x y n m d P) := by
  intro i j hi hj hl w1 w2
  have hg := lev_gap x y i j
  unfold roundV
  rw [if_pos (by omega)]
  exact step_complete x y n m hS hC i j hi hj hl w1 w2

/-- Ahead of the first round. -/
def startV (t : Nat) : Int := if t = n then (slide x y n m n 0 0 : Int) else -1

theorem start_sound : Sound x y n m 0 (startV x y n m) := by
  intro t ht
  unfold startV
  split
  · rename_i e
    subst e
    obtain ⟨a, b, c⟩ := slide_ok x y t m t 0 0 (by omega) (by omega)
    rw [lev_zero] at c
    exact .inr ⟨_, 0 + slide x y t m t 0 0 - 0, rfl, a, by omega, by omega, c⟩
  · exact .inl rfl

theorem eq_of_lev_zero (k : Nat) (h : lev x y k k = 0) : ∀ t, t < k → x t = y t := by
  induction k with
  | zero => intro t ht; omega
  | succ k ih =>
    rw [lev_succ] at h
    intro t ht
    by_cases e : x k = y k
    · rw [if_pos e] at h
      by_cases e2 : t = k
      · rw [e2]; exact e
      · exact ih (by omega) t (by omega)
    · rw [if_neg e] at h
      omega

theorem start_complete : Complete x y n m 0 (startV x y n m) := by
  intro i j hi hj hl _ _
  have hg := lev_gap x y i j
  obtain rfl : i = j := by omega
  unfold startV
  rw [if_pos (by omega)]
  have he := eq_of_lev_zero x y i (by omega)
  have := slide_max x y n m n 0 0 i (by omega) (by omega) hi (fun t ht => by simpa using he t ht)
  omega

/-- THE LAW: the target diagonal reaches the last row just when the distance is at most d. -/
theorem reached {d : Nat} {P : Nat → Int} (hS : Sound x y n m d P) (hC : Complete x y n m d P) : P m = n ↔ lev x y n m ≤ d := by
  constructor
  · intro h
    rcases hS m (by omega) with h0 | ⟨i, j, h1, h2, h3, h4, h5⟩
    · omega
    · obtain rfl : i = n := by omega
      obtain rfl : j = m := by omega
      exact h5
  · intro h
    have := hC n m (Nat.le_refl _) (Nat.le_refl _) h (fun j' h h' => by omega) (fun i' h h' => by omega)
    rw [show m + n - n = m by omega] at this
    rcases hS m (by omega) with h0 | ⟨i, j, h1, h2, h3, h4, h5⟩
    · omega
    · omega
end
end Go.Proofs.Qxb6602995a.Lev
