/- The plain law of scanNumber: no Go in sight. -/
namespace Go.Proofs.Qxb6602995a.Num

def digB (c : Int) : Bool := decide (48 ≤ c ∧ c ≤ 57)

/-- The first place from i on that holds no digit. -/
def skipD (g : Nat → Int) (n : Nat) : Nat → Nat → Nat
  | 0, i => i
  | f + 1, i => if i < n ∧ digB (g i) = true then skipD g n f (i + 1) else i

def expP (g : Nat → Int) (n i : Nat) : Nat × Bool :=
  if i < n ∧ (g i = 101 ∨ g i = 69) then
    let i2 := if i + 1 < n ∧ (g (i + 1) = 43 ∨ g (i + 1) = 45) then i + 2 else i + 1
    if i2 < skipD g n n i2 then (skipD g n n i2, true) else (i2, false)
  else (i, true)

def fracP (g : Nat → Int) (n i : Nat) : Nat × Bool :=
  if i < n ∧ g i = 46 then
    if skipD g n n (i + 1) = i + 1 then (i + 1, false) else expP g n (skipD g n n (i + 1))
  else expP g n i

def intP (g : Nat → Int) (n i : Nat) : Nat × Bool :=
  if i < n ∧ g i = 48 then fracP g n (i + 1)
  else if i < n ∧ digB (g i) = true then fracP g n (skipD g n n i)
  else (i, false)

def scanN (g : Nat → Int) (n i : Nat) : Nat × Bool := if g i = 45 then intP g n (i + 1) else intP g n i

theorem skip_ge (g : Nat → Int) (n : Nat) : ∀ f i, i ≤ skipD g n f i := by
  intro f
  induction f with
  | zero => intro i; exact Nat.le_refl _
  | succ f ih =>
    intro i
    rw [skipD]
    split
    · have := ih (i + 1); omega
    · exact Nat.le_refl _

theorem skip_le (g : Nat → Int) (n : Nat) : ∀ f i, i ≤ n → skipD g n f i ≤ n := by
  intro f
  induction f with
  | zero => intro i h; exact h
  | succ f ih =>
    intro i h
    rw [skipD]
    split
    · exact ih (i + 1) (by omega)
    · exact h

/-- All places passed over hold digits. -/
theorem skip_digits (g : Nat → Int) (n : Nat) : ∀ f i t, i ≤ t → t < skipD g n f i → digB (g t) = true := by
  intro f
  induction f with
  | zero => intro i t h h'; rw [skipD] at h'; omega
  | succ f ih =>
    intro i t h h'
    rw [skipD] at h'
    split at h'
    · rename_i hc
      by_cases e : t = i
      · rw [e]; exact hc.2
      · exact ih (i + 1) t (by omega) h'
    · omega

/-- It stops at the data's end or at a place that holds no digit. -/
theorem skip_stop (g : Nat → Int) (n : Nat) : ∀ f i, i ≤ n → n ≤ i + f → skipD g n f i < n → digB (g (skipD g n f i)) = false := by
  intro f
  induction f with
  | zero => intro i h h' h2; rw [skipD] at h2; omega
  | succ f ih =>
    intro i h h' h2
    rw [skipD] at h2 ⊢
    split at h2
    · rename_i hc
      rw [if_pos hc]
      exact ih (i + 1) (by omega) (by omega) h2
    · rename_i hc
      rw [if_neg hc]
      cases hd : digB (g i) with
      | false => rfl
      | true => exact absurd ⟨h2, hd⟩ hc

/-- The place is fixed by these three facts. -/
theorem skip_unique (g : Nat → Int) (n f i k : Nat) (hi : i ≤ n) (hf : n ≤ i + f) (h1 : i ≤ k) (h2 : k ≤ n) (h3 : ∀ t, i ≤ t → t < k → digB (g t) = true) (h4 : k < n → digB (g k) = false) : skipD g n f i = k := by
  have a1 := skip_ge g n f i
  have a2 := skip_le g n f i hi
  have a3 := skip_digits g n f i
  have a4 := skip_stop g n f i hi hf
  rcases Nat.lt_trichotomy (skipD g n f i) k with h | h | h
  · have := a4 (by omega)
    rw [h3 _ a1 h] at this
    cases this
  · exact h
  · have := h4 (by omega)
    rw [a3 k h1 h] at this
    cases this
end Go.Proofs.Qxb6602995a.Num
