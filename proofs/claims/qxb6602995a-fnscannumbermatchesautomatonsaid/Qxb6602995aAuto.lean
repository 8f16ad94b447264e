/- The plain law: the automaton of JSON numbers answers what scanNumber answers. No Go in sight. -/
import Derived.Test.Qxb6602995aNumLaw
namespace Go.Proofs.Qxb6602995a.Num

def stepN (st : Nat) (c : Int) : Int :=
  if st = 0 ∨ st = 1 then (if st = 0 ∧ c = 45 then 1 else if c = 48 then 2 else if digB c = true then 3 else -1)
  else if st = 2 then (if c = 46 then 4 else if c = 101 ∨ c = 69 then 6 else -1)
  else if st = 3 then (if digB c = true then 3 else if c = 46 then 4 else if c = 101 ∨ c = 69 then 6 else -1)
  else if st = 4 then (if digB c = true then 5 else -1)
  else if st = 5 then (if digB c = true then 5 else if c = 101 ∨ c = 69 then 6 else -1)
  else if st = 6 then (if c = 43 ∨ c = 45 then 7 else if digB c = true then 8 else -1)
  else (if digB c = true then 8 else -1)

theorem stepN_le (st : Nat) (c : Int) : -1 ≤ stepN st c ∧ stepN st c ≤ 8 := by
  unfold stepN
  repeat' split
  all_goals omega

def accN (st : Nat) : Bool := decide (st = 2 ∨ st = 3 ∨ st = 5 ∨ st = 8)

/-- So many bytes are left from place p on. -/
def runN (g : Nat → Int) (n : Nat) : Nat → Nat → Nat → Nat × Bool
  | 0, _, st => (n, accN st)
  | f + 1, p, st => if stepN st (g p) < 0 then (p, accN st) else runN g n f (p + 1) (stepN st (g p)).toNat

def autoN (g : Nat → Int) (n p st : Nat) : Nat × Bool := runN g n (n - p) p st

section
variable {g : Nat → Int} {n : Nat}

theorem auto_end {p st : Nat} (h : n ≤ p) : autoN g n p st = (n, accN st) := by
  unfold autoN
  rw [show n - p = 0 by omega, runN]

theorem auto_stop {p st : Nat} (h : p < n) (hs : stepN st (g p) = -1) : autoN g n p st = (p, accN st) := by
  unfold autoN
  obtain ⟨f, hf⟩ : ∃ f, n - p = f + 1 := ⟨n - p - 1, by omega⟩
  rw [hf, runN, if_pos (by omega)]

theorem auto_go {p st st' : Nat} (h : p < n) (hs : stepN st (g p) = st') : autoN g n p st = autoN g n (p + 1) st' := by
  unfold autoN
  obtain ⟨f, hf⟩ : ∃ f, n - p = f + 1 := ⟨n - p - 1, by omega⟩
  rw [hf, runN, if_neg (by omega), hs, show n - (p + 1) = f by omega]
  rfl

theorem skip_stay {i : Nat} (hi : i ≤ n) (h : i < n → digB (g i) = false) : skipD g n n i = i :=
  skip_unique g n n i i hi (by omega) (Nat.le_refl _) hi (fun t h1 h2 => by omega) h

theorem skip_step {i : Nat} (hi : i < n) (h : digB (g i) = true) : skipD g n n i = skipD g n n (i + 1) := by
  have a1 := skip_ge g n n (i + 1)
  refine skip_unique g n n i _ (by omega) (by omega) (by omega) (skip_le g n n (i + 1) (by omega)) (fun t h1 h2 => ?_) (skip_stop g n n (i + 1) (by omega) (by omega))
  by_cases e : t = i
  · rw [e]; exact h
  · exact skip_digits g n n (i + 1) t (by omega) h2

theorem stepN_dig {st : Nat} {c : Int} (hs : st = 3 ∨ st = 5 ∨ st = 8) (h : digB c = true) : stepN st c = st := by
  unfold stepN
  rcases hs with rfl | rfl | rfl <;> simp [h]

/-- A run of digits. -/
theorem auto_digits {st : Nat} (hs : st = 3 ∨ st = 5 ∨ st = 8) : ∀ (f p : Nat), n - p ≤ f → p ≤ n → autoN g n p st = autoN g n (skipD g n n p) st := by
  intro f
  induction f with
  | zero =>
    intro p h1 h2
    rw [skip_stay h2 (fun h => by omega)]
  | succ f ih =>
    intro p h1 h2
    by_cases h : p < n ∧ digB (g p) = true
    · rw [auto_go h.1 (stepN_dig hs h.2), ih (p + 1) (by omega) (by omega), skip_step h.1 h.2]
    · rw [skip_stay h2 (fun hp => by cases hd : digB (g p) with | false => rfl | true => exact absurd ⟨hp, hd⟩ h)]

theorem auto_eight {p : Nat} (hp : p ≤ n) : autoN g n p 8 = (skipD g n n p, true) := by
  rw [auto_digits (.inr (.inr rfl)) _ p (Nat.le_refl _) hp]
  have a2 := skip_le g n n p hp
  by_cases h : skipD g n n p < n
  · have hd := skip_stop g n n p hp (by omega) h
    rw [auto_stop h (by unfold stepN; simp [hd])]
    rfl
  · rw [auto_end (by omega), show skipD g n n p = n by omega]
    rfl

theorem dig_not {c : Int} (h : digB c = true) : c ≠ 46 ∧ c ≠ 101 ∧ c ≠ 69 ∧ c ≠ 43 ∧ c ≠ 45 := by
  have : 48 ≤ c ∧ c ≤ 57 := of_decide_eq_true h
  omega

/-- The exponent. -/
theorem auto_exp {i st : Nat} (hi : i ≤ n) (hs : st = 2 ∨ st = 3 ∨ st = 5) (hd : i < n → st = 5 ∨ g i ≠ 46) (hg : i < n → st = 2 ∨ digB (g i) = false) : autoN g n i st = expP g n i := by
  have hacc : accN st = true := decide_eq_true (by omega)
  rw [expP]
  by_cases h0 : i < n ∧ (g i = 101 ∨ g i = 69)
  · rw [if_pos h0]
    have hnd : digB (g i) = false := by
      rcases h0.2 with h | h <;> rw [h] <;> decide
    have h6 : stepN st (g i) = (6 : Nat) := by
      have : g i ≠ 46 := by omega
      unfold stepN
      rcases hs with rfl | rfl | rfl <;> simp [h0.2, hnd, this]
    rw [auto_go h0.1 h6]
    by_cases h1 : i + 1 < n
    · by_cases hsg : g (i + 1) = 43 ∨ g (i + 1) = 45
      · simp only [if_pos (show i + 1 < n ∧ _ from ⟨h1, hsg⟩)]
        rw [auto_go h1 (show stepN 6 (g (i + 1)) = (7 : Nat) by unfold stepN; simp [hsg])]
        by_cases h2 : i + 1 + 1 < n ∧ digB (g (i + 1 + 1)) = true
        · rw [auto_go h2.1 (show stepN 7 (g (i + 1 + 1)) = (8 : Nat) by unfold stepN; simp [h2.2]), auto_eight (by omega)]
          have e := skip_step h2.1 h2.2
          have a := skip_ge g n n (i + 1 + 1 + 1)
          rw [show i + 2 = i + 1 + 1 from rfl, e, if_pos (by omega)]
        · have hst : skipD g n n (i + 2) = i + 2 := skip_stay (by omega) (fun hp => by cases hd : digB (g (i + 2)) with | false => rfl | true => exact absurd ⟨hp, hd⟩ h2)
          rw [hst, if_neg (by omega)]
          by_cases h3 : i + 1 + 1 < n
          · have hd2 : digB (g (i + 1 + 1)) = false := by cases hd : digB (g (i + 1 + 1)) with | false => rfl | true => exact absurd ⟨h3, hd⟩ h2
            rw [auto_stop h3 (by unfold stepN; simp [hd2])]
            rfl
          · rw [auto_end (by omega), show n = i + 2 by omega]
            rfl
      · simp only [if_neg (show ¬ (i + 1 < n ∧ (g (i + 1) = 43 ∨ g (i + 1) = 45)) from fun q => hsg q.2)]
        by_cases h2 : digB (g (i + 1)) = true
        · rw [auto_go h1 (show stepN 6 (g (i + 1)) = (8 : Nat) by unfold stepN; simp [hsg, h2]), auto_eight (by omega)]
          have e := skip_step h1 h2
          have a := skip_ge g n n (i + 1 + 1)
          rw [e, if_pos (by omega)]
        · have h2 : digB (g (i + 1)) = false := by cases hd : digB (g (i + 1)) with | false => rfl | true => exact absurd hd h2
          rw [auto_stop h1 (by unfold stepN; simp [hsg, h2]), skip_stay (by omega) (fun _ => h2), if_neg (by omega)]
          rfl
    · simp only [if_neg (show ¬ (i + 1 < n ∧ (g (i + 1) = 43 ∨ g (i + 1) = 45)) from fun q => h1 q.1)]
      rw [auto_end (by omega), skip_stay (by omega) (fun q => by omega), if_neg (by omega), show n = i + 1 by omega]
      rfl
  · rw [if_neg h0]
    by_cases h1 : i < n
    · have he : ¬ (g i = 101 ∨ g i = 69) := fun q => h0 ⟨h1, q⟩
      have hm : stepN st (g i) = -1 := by
        have a := hd h1
        have b := hg h1
        unfold stepN
        rcases hs with rfl | rfl | rfl
        · have : g i ≠ 46 := by omega
          simp [he, this]
        · have c1 : g i ≠ 46 := by omega
          have c2 : digB (g i) = false := by rcases b with b | b; omega; exact b
          simp [he, c1, c2]
        · have c2 : digB (g i) = false := by rcases b with b | b; omega; exact b
          simp [he, c2]
      rw [auto_stop h1 hm, hacc]
    · rw [auto_end (by omega), hacc, show n = i by omega]

/-- The fraction. -/
theorem auto_frac {i st : Nat} (hi : i ≤ n) (hs : st = 2 ∨ st = 3) (hg : i < n → st = 2 ∨ digB (g i) = false) : autoN g n i st = fracP g n i := by
  rw [fracP]
  by_cases h0 : i < n ∧ g i = 46
  · rw [if_pos h0]
    have h4 : stepN st (g i) = (4 : Nat) := by
      have : digB (46 : Int) = false := by decide
      unfold stepN
      rcases hs with rfl | rfl <;> simp [h0.2, this]
    rw [auto_go h0.1 h4]
    by_cases h1 : i + 1 < n ∧ digB (g (i + 1)) = true
    · rw [auto_go h1.1 (show stepN 4 (g (i + 1)) = (5 : Nat) by unfold stepN; simp [h1.2]), auto_digits (.inr (.inl rfl)) _ _ (Nat.le_refl _) (by omega)]
      have e := skip_step h1.1 h1.2
      have a := skip_ge g n n (i + 1 + 1)
      have b := skip_le g n n (i + 1 + 1) (by omega)
      rw [e, if_neg (by omega)]
      exact auto_exp b (.inr (.inr rfl)) (fun _ => .inl rfl) (fun h => .inr (skip_stop g n n (i + 1 + 1) (by omega) (by omega) h))
    · have hst : skipD g n n (i + 1) = i + 1 := skip_stay (by omega) (fun hp => by cases hd : digB (g (i + 1)) with | false => rfl | true => exact absurd ⟨hp, hd⟩ h1)
      rw [if_pos hst]
      by_cases h2 : i + 1 < n
      · have hd2 : digB (g (i + 1)) = false := by cases hd : digB (g (i + 1)) with | false => rfl | true => exact absurd ⟨h2, hd⟩ h1
        rw [auto_stop h2 (by unfold stepN; simp [hd2])]
        rfl
      · rw [auto_end (by omega), show n = i + 1 by omega]
        rfl
  · rw [if_neg h0]
    exact auto_exp hi (by omega) (fun h => .inr (fun q => h0 ⟨h, q⟩)) hg

/-- The whole part. -/
theorem auto_int {i st : Nat} (hi : i ≤ n) (hs : st = 1 ∨ (st = 0 ∧ g i ≠ 45)) : autoN g n i st = intP g n i := by
  rw [intP]
  have hacc : accN st = false := decide_eq_false (by omega)
  have hst : st = 0 ∨ st = 1 := by omega
  by_cases h0 : i < n ∧ g i = 48
  · rw [if_pos h0]
    have h2 : stepN st (g i) = (2 : Nat) := by
      unfold stepN
      rcases hst with rfl | rfl <;> simp [h0.2]
    rw [auto_go h0.1 h2]
    exact auto_frac (by omega) (.inl rfl) (fun _ => .inl rfl)
  rw [if_neg h0]
  by_cases h1 : i < n ∧ digB (g i) = true
  · rw [if_pos h1]
    have hn48 : g i ≠ 48 := fun q => h0 ⟨h1.1, q⟩
    have hn45 := (dig_not h1.2).2.2.2.2
    have h3 : stepN st (g i) = (3 : Nat) := by
      unfold stepN
      rcases hst with rfl | rfl <;> simp [hn48, hn45, h1.2]
    rw [auto_go h1.1 h3, auto_digits (.inl rfl) _ _ (Nat.le_refl _) (by omega), skip_step h1.1 h1.2]
    exact auto_frac (skip_le g n n (i + 1) (by omega)) (.inr rfl) (fun h => .inr (skip_stop g n n (i + 1) (by omega) (by omega) h))
  · rw [if_neg h1]
    by_cases h2 : i < n
    · have hd : digB (g i) = false := by cases hd : digB (g i) with | false => rfl | true => exact absurd ⟨h2, hd⟩ h1
      have hn48 : g i ≠ 48 := fun q => h0 ⟨h2, q⟩
      have hm : stepN st (g i) = -1 := by
        unfold stepN
        rcases hs with rfl | ⟨rfl, hs⟩ <;> simp [hn48, hd]
        exact hs
      rw [auto_stop h2 hm, hacc]
    · rw [auto_end (by omega), hacc, show n = i by omega]

/-- THE LAW. -/
theorem auto_scan {i : Nat} (hi : i < n) : autoN g n i 0 = scanN g n i := by
  rw [scanN]
  by_cases h : g i = 45
  · rw [if_pos h, auto_go hi (show stepN 0 (g i) = (1 : Nat) by unfold stepN; simp [h])]
    exact auto_int (by omega) (.inl rfl)
  · rw [if_neg h]
    exact auto_int (by omega) (.inr ⟨rfl, h⟩)
end
end Go.Proofs.Qxb6602995a.Num
