/- The plain law: scanNumber reads nothing past its end. -/
import Derived.Test.Qxb6602995aNum
namespace Go.Proofs.Qxb6602995a.Num

theorem skip_cut {g : Nat → Int} {n i e : Nat} (hi : i ≤ n) (h1 : skipD g n n i ≤ e) (h2 : e ≤ n) : skipD g e e i = skipD g n n i := by
  have a1 := skip_ge g n n i
  exact skip_unique g e e i _ (by omega) (by omega) a1 h1 (skip_digits g n n i) (fun h => skip_stop g n n i hi (by omega) (by omega))

theorem skip_self (g : Nat → Int) (e f : Nat) : skipD g e f e = e := by
  cases f with
  | zero => rfl
  | succ f => rw [skipD, if_neg (by omega)]

theorem skip_more {g : Nat → Int} {n i : Nat} (hi : i < n) (h : digB (g i) = true) : i < skipD g n n i := by
  have a1 := skip_ge g n n i
  rcases Nat.lt_or_ge i (skipD g n n i) with h1 | h1
  · exact h1
  · have e : skipD g n n i = i := by omega
    have := skip_stop g n n i (by omega) (by omega) (by omega)
    rw [e, h] at this
    cases this

theorem exp_cut {g : Nat → Int} {n i E : Nat} {K : Bool} (h : expP g n i = (E, K)) (hi : i ≤ n) : i ≤ E ∧ E ≤ n ∧ expP g E i = (E, K) := by
  rw [expP] at h
  by_cases h0 : i < n ∧ (g i = 101 ∨ g i = 69)
  · rw [if_pos h0] at h
    by_cases hs : i + 1 < n ∧ (g (i + 1) = 43 ∨ g (i + 1) = 45)
    · simp only [if_pos hs] at h
      have a1 := skip_ge g n n (i + 2)
      have a2 := skip_le g n n (i + 2) (by omega)
      by_cases hk : i + 2 < skipD g n n (i + 2)
      · rw [if_pos hk] at h
        obtain ⟨rfl, rfl⟩ := by simpa using h
        refine ⟨by omega, a2, ?_⟩
        rw [expP, if_pos ⟨by omega, h0.2⟩]
        simp only [if_pos (show i + 1 < skipD g n n (i + 2) ∧ _ from ⟨by omega, hs.2⟩)]
        rw [skip_cut (by omega) (Nat.le_refl _) a2, if_pos hk]
      · rw [if_neg hk] at h
        obtain ⟨rfl, rfl⟩ := by simpa using h
        refine ⟨by omega, by omega, ?_⟩
        rw [expP, if_pos ⟨by omega, h0.2⟩]
        simp only [if_pos (show i + 1 < i + 2 ∧ _ from ⟨by omega, hs.2⟩)]
        rw [skip_self, if_neg (by omega)]
    · simp only [if_neg hs] at h
      have a1 := skip_ge g n n (i + 1)
      have a2 := skip_le g n n (i + 1) (by omega)
      by_cases hk : i + 1 < skipD g n n (i + 1)
      · rw [if_pos hk] at h
        obtain ⟨rfl, rfl⟩ := by simpa using h
        refine ⟨by omega, a2, ?_⟩
        rw [expP, if_pos ⟨by omega, h0.2⟩]
        simp only [if_neg (show ¬ (i + 1 < skipD g n n (i + 1) ∧ (g (i + 1) = 43 ∨ g (i + 1) = 45)) from fun q => hs ⟨by omega, q.2⟩)]
        rw [skip_cut (by omega) (Nat.le_refl _) a2, if_pos hk]
      · rw [if_neg hk] at h
        obtain ⟨rfl, rfl⟩ := by simpa using h
        refine ⟨by omega, by omega, ?_⟩
        rw [expP, if_pos ⟨by omega, h0.2⟩]
        simp only [if_neg (show ¬ (i + 1 < i + 1 ∧ (g (i + 1) = 43 ∨ g (i + 1) = 45)) from fun q => by omega)]
        rw [skip_self, if_neg (by omega)]
  · rw [if_neg h0] at h
    obtain ⟨rfl, rfl⟩ := by simpa using h
    exact ⟨Nat.le_refl _, hi, by rw [expP, if_neg (by omega)]⟩

theorem frac_cut {g : Nat → Int} {n i E : Nat} {K : Bool} (h : fracP g n i = (E, K)) (hi : i ≤ n) : i ≤ E ∧ E ≤ n ∧ fracP g E i = (E, K) := by
  rw [fracP] at h
  by_cases h0 : i < n ∧ g i = 46
  · rw [if_pos h0] at h
    have a1 := skip_ge g n n (i + 1)
    have a2 := skip_le g n n (i + 1) (by omega)
    by_cases hk : skipD g n n (i + 1) = i + 1
    · rw [if_pos hk] at h
      obtain ⟨rfl, rfl⟩ := by simpa using h
      exact ⟨by omega, by omega, by rw [fracP, if_pos ⟨by omega, h0.2⟩, skip_self, if_pos rfl]⟩
    · rw [if_neg hk] at h
      obtain ⟨b1, b2, b3⟩ := exp_cut h a2
      refine ⟨by omega, b2, ?_⟩
      rw [fracP, if_pos ⟨by omega, h0.2⟩, skip_cut (by omega) b1 b2, if_neg hk, b3]
  · rw [if_neg h0] at h
    obtain ⟨b1, b2, b3⟩ := exp_cut h hi
    exact ⟨b1, b2, by rw [fracP, if_neg (fun q => h0 ⟨by omega, q.2⟩), b3]⟩

theorem int_cut {g : Nat → Int} {n i E : Nat} {K : Bool} (h : intP g n i = (E, K)) (hi : i ≤ n) : i ≤ E ∧ E ≤ n ∧ intP g E i = (E, K) ∧ (i < n → digB (g i) = true → i < E) := by
  rw [intP] at h
  by_cases h0 : i < n ∧ g i = 48
  · rw [if_pos h0] at h
    obtain ⟨b1, b2, b3⟩ := frac_cut h (by omega)
    exact ⟨by omega, b2, by rw [intP, if_pos ⟨by omega, h0.2⟩, b3], fun _ _ => by omega⟩
  · rw [if_neg h0] at h
    by_cases h1 : i < n ∧ digB (g i) = true
    · rw [if_pos h1] at h
      have a2 := skip_le g n n i hi
      have a3 := skip_more h1.1 h1.2
      obtain ⟨b1, b2, b3⟩ := frac_cut h a2
      refine ⟨by omega, b2, ?_, fun _ _ => by omega⟩
      rw [intP, if_neg (fun q => h0 ⟨h1.1, q.2⟩), if_pos ⟨by omega, h1.2⟩, skip_cut hi b1 b2, b3]
    · rw [if_neg h1] at h
      obtain ⟨rfl, rfl⟩ := by simpa using h
      exact ⟨Nat.le_refl _, hi, by rw [intP, if_neg (by omega), if_neg (by omega)], fun a b => absurd ⟨a, b⟩ h1⟩

/-- THE LAW. -/
theorem reads_no_more {g : Nat → Int} {n i E : Nat} {K : Bool} (h : scanN g n i = (E, K)) (hi : i < n) (hd : g i = 45 ∨ digB (g i) = true) : i < E ∧ E ≤ n ∧ scanN g E i = (E, K) := by
  rw [scanN] at h
  by_cases h0 : g i = 45
  · rw [if_pos h0] at h
    obtain ⟨b1, b2, b3, _⟩ := int_cut h (by omega)
    exact ⟨by omega, b2, by rw [scanN, if_pos h0, b3]⟩
  · rw [if_neg h0] at h
    obtain ⟨b1, b2, b3, b4⟩ := int_cut h (by omega)
    exact ⟨b4 hi (hd.resolve_left h0), b2, by rw [scanN, if_neg h0, b3]⟩
end Go.Proofs.Qxb6602995a.Num
