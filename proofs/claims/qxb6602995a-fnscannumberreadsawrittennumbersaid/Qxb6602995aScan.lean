/- The plain law of scanString: no Go in sight. The data: the numbers g 0, .., g (n - 1). -/
namespace Go.Proofs.Qxb6602995a.Scan

def hexB (c : Int) : Bool := decide ((48 ≤ c ∧ c ≤ 57) ∨ (97 ≤ c ∧ c ≤ 102) ∨ (65 ≤ c ∧ c ≤ 70))
def shortB (c : Int) : Bool := decide (c = 34 ∨ c = 92 ∨ c = 47 ∨ c = 98 ∨ c = 102 ∨ c = 110 ∨ c = 114 ∨ c = 116)

/-- The first of the c places from k on that holds no hex digit. -/
def hexBad (g : Nat → Int) (n : Nat) : Nat → Nat → Option Nat
  | 0, _ => none
  | c + 1, k => if n ≤ k ∨ hexB (g k) = false then some k else hexBad g n c (k + 1)

def scanS (g : Nat → Int) (n : Nat) : Nat → Nat → Bool → Nat × Bool × Bool
  | 0, _, esc => (n, esc, false)
  | f + 1, j, esc =>
    if n ≤ j then (n, esc, false)
    else if g j = 34 then (j + 1, esc, true)
    else if g j < 32 then (j, esc, false)
    else if g j = 92 then
      if n ≤ j + 1 then (j + 1, true, false)
      else if shortB (g (j + 1)) = true then scanS g n f (j + 2) true
      else if g (j + 1) = 117 then
        match hexBad g n 4 (j + 2) with
        | some k => (k, true, false)
        | none => scanS g n f (j + 6) true
      else (j + 1, true, false)
    else scanS g n f (j + 1) esc

section
variable {g : Nat → Int} {n f j : Nat} {esc : Bool}

theorem scan_end (h : n ≤ j) : scanS g n f j esc = (n, esc, false) := by
  cases f with
  | zero => rfl
  | succ f => rw [scanS, if_pos h]

theorem scan_quote (h : ¬ n ≤ j) (h1 : g j = 34) : scanS g n (f + 1) j esc = (j + 1, esc, true) := by
  rw [scanS, if_neg h, if_pos h1]

theorem scan_control (h : ¬ n ≤ j) (h1 : ¬ g j = 34) (h2 : g j < 32) : scanS g n (f + 1) j esc = (j, esc, false) := by
  rw [scanS, if_neg h, if_neg h1, if_pos h2]

theorem scan_plain (h : ¬ n ≤ j) (h1 : ¬ g j = 34) (h2 : ¬ g j < 32) (h3 : ¬ g j = 92) : scanS g n (f + 1) j esc = scanS g n f (j + 1) esc := by
  rw [scanS, if_neg h, if_neg h1, if_neg h2, if_neg h3]

theorem scan_cut (h : ¬ n ≤ j) (h3 : g j = 92) (h4 : n ≤ j + 1) : scanS g n (f + 1) j esc = (j + 1, true, false) := by
  rw [scanS, if_neg h, if_neg (by omega), if_neg (by omega), if_pos h3, if_pos h4]

theorem scan_short (h3 : g j = 92) (h4 : ¬ n ≤ j + 1) (h5 : shortB (g (j + 1)) = true) : scanS g n (f + 1) j esc = scanS g n f (j + 2) true := by
  rw [scanS, if_neg (by omega), if_neg (by omega), if_neg (by omega), if_pos h3, if_neg h4, if_pos h5]

theorem not_short_u {c : Int} (h : c = 117) : ¬ shortB c = true := by subst h; decide

theorem scan_hex (h3 : g j = 92) (h4 : ¬ n ≤ j + 1) (h6 : g (j + 1) = 117) :
    scanS g n (f + 1) j esc = match hexBad g n 4 (j + 2) with | some k => (k, true, false) | none => scanS g n f (j + 6) true := by
  rw [scanS, if_neg (by omega), if_neg (by omega), if_neg (by omega), if_pos h3, if_neg h4, if_neg (not_short_u h6), if_pos h6]

theorem scan_hex_bad {k : Nat} (h3 : g j = 92) (h4 : ¬ n ≤ j + 1) (h6 : g (j + 1) = 117) (h7 : hexBad g n 4 (j + 2) = some k) :
    scanS g n (f + 1) j esc = (k, true, false) := by rw [scan_hex h3 h4 h6, h7]

theorem scan_hex_good (h3 : g j = 92) (h4 : ¬ n ≤ j + 1) (h6 : g (j + 1) = 117) (h7 : hexBad g n 4 (j + 2) = none) :
    scanS g n (f + 1) j esc = scanS g n f (j + 6) true := by rw [scan_hex h3 h4 h6, h7]

theorem scan_other (h3 : g j = 92) (h4 : ¬ n ≤ j + 1) (h5 : ¬ shortB (g (j + 1)) = true) (h6 : ¬ g (j + 1) = 117) : scanS g n (f + 1) j esc = (j + 1, true, false) := by
  rw [scanS, if_neg (by omega), if_neg (by omega), if_neg (by omega), if_pos h3, if_neg h4, if_neg h5, if_neg h6]
end

theorem hexBad_some {g : Nat → Int} {n : Nat} : ∀ (c k0 k : Nat), hexBad g n c k0 = some k → k0 ≤ n → k0 ≤ k ∧ k ≤ n ∧ k < k0 + c ∧ hexBad g k c k0 = some k := by
  intro c
  induction c with
  | zero => intro k0 k h; cases h
  | succ c ih =>
    intro k0 k h hk
    rw [hexBad] at h
    split at h
    · cases h
      exact ⟨Nat.le_refl _, hk, by omega, by rw [hexBad, if_pos (.inl (Nat.le_refl _))]⟩
    · rename_i hn
      have hn1 : ¬ n ≤ k0 := fun x => hn (.inl x)
      have hn2 : ¬ hexB (g k0) = false := fun x => hn (.inr x)
      obtain ⟨a, b, d, e⟩ := ih (k0 + 1) k h (by omega)
      refine ⟨by omega, b, by omega, ?_⟩
      rw [hexBad, if_neg, e]
      rintro (x | x)
      · omega
      · exact hn2 x

theorem hexBad_none {g : Nat → Int} {n : Nat} : ∀ (c k0 : Nat), hexBad g n c k0 = none → k0 ≤ n → k0 + c ≤ n ∧ ∀ e, k0 + c ≤ e → hexBad g e c k0 = none := by
  intro c
  induction c with
  | zero => intro k0 _ h; exact ⟨by omega, fun e _ => rfl⟩
  | succ c ih =>
    intro k0 h hk
    rw [hexBad] at h
    split at h
    · cases h
    · rename_i hn
      have hn1 : ¬ n ≤ k0 := fun x => hn (.inl x)
      have hn2 : ¬ hexB (g k0) = false := fun x => hn (.inr x)
      obtain ⟨a, b⟩ := ih (k0 + 1) h (by omega)
      refine ⟨by omega, fun e he => ?_⟩
      rw [hexBad, if_neg, b e (by omega)]
      rintro (x | x)
      · omega
      · exact hn2 x

/-- THE LAW: the end lies within the data, behind the start; what is accepted ends in a quote; cut off at its end the data give the same answer. -/
theorem reads_no_more (g : Nat → Int) (n : Nat) : ∀ (F j : Nat) (esc : Bool) (e : Nat) (b ok : Bool), scanS g n F j esc = (e, b, ok) → j ≤ n → n ≤ j + F →
    j ≤ e ∧ e ≤ n ∧ (ok = true → j < e ∧ g (e - 1) = 34) ∧ ∀ F', e ≤ j + F' → scanS g e F' j esc = (e, b, ok) := by
  intro F
  induction F with
  | zero =>
    intro j esc e b ok h hj hF
    rw [scanS] at h
    obtain ⟨rfl, rfl, rfl⟩ := by simpa using h
    exact ⟨hj, Nat.le_refl _, by simp, fun F' _ => scan_end (by omega)⟩
  | succ F ih =>
    intro j esc e b ok h hj hF
    by_cases h0 : n ≤ j
    · rw [scan_end h0] at h
      obtain ⟨rfl, rfl, rfl⟩ := by simpa using h
      exact ⟨hj, Nat.le_refl _, by simp, fun F' _ => scan_end h0⟩
    by_cases h1 : g j = 34
    · rw [scan_quote h0 h1] at h
      obtain ⟨rfl, rfl, rfl⟩ := by simpa using h
      refine ⟨by omega, by omega, fun _ => ⟨by omega, by simpa using h1⟩, fun F' hF' => ?_⟩
      obtain ⟨f, rfl⟩ : ∃ f, F' = f + 1 := ⟨F' - 1, by omega⟩
      exact scan_quote (by omega) h1
    by_cases h2 : g j < 32
    · rw [scan_control h0 h1 h2] at h
      obtain ⟨rfl, rfl, rfl⟩ := by simpa using h
      exact ⟨by omega, by omega, by simp, fun F' hF' => scan_end (Nat.le_refl _)⟩
    by_cases h3 : g j = 92
    · by_cases h4 : n ≤ j + 1
      · rw [scan_cut h0 h3 h4] at h
        obtain ⟨rfl, rfl, rfl⟩ := by simpa using h
        refine ⟨by omega, by omega, by simp, fun F' hF' => ?_⟩
        obtain ⟨f, rfl⟩ : ∃ f, F' = f + 1 := ⟨F' - 1, by omega⟩
        exact scan_cut (by omega) h3 (Nat.le_refl _)
      by_cases h5 : shortB (g (j + 1)) = true
      · rw [scan_short h3 h4 h5] at h
        obtain ⟨a1, a2, a3, a4⟩ := ih (j + 2) true e b ok h (by omega) (by omega)
        refine ⟨by omega, a2, fun hk => ⟨by have := a3 hk; omega, (a3 hk).2⟩, fun F' hF' => ?_⟩
        obtain ⟨f, rfl⟩ : ∃ f, F' = f + 1 := ⟨F' - 1, by omega⟩
        rw [scan_short h3 (by omega) h5]
        exact a4 f (by omega)
      by_cases h6 : g (j + 1) = 117
      · cases h7 : hexBad g n 4 (j + 2) with
        | some k =>
          rw [scan_hex_bad h3 h4 h6 h7] at h
          obtain ⟨rfl, rfl, rfl⟩ := by simpa using h
          obtain ⟨b1, b2, b3, b4⟩ := hexBad_some 4 (j + 2) k h7 (by omega)
          refine ⟨by omega, b2, by simp, fun F' hF' => ?_⟩
          obtain ⟨f, rfl⟩ : ∃ f, F' = f + 1 := ⟨F' - 1, by omega⟩
          exact scan_hex_bad h3 (by omega) h6 b4
        | none =>
          rw [scan_hex_good h3 h4 h6 h7] at h
          obtain ⟨b1, b2⟩ := hexBad_none 4 (j + 2) h7 (by omega)
          obtain ⟨a1, a2, a3, a4⟩ := ih (j + 6) true e b ok h (by omega) (by omega)
          refine ⟨by omega, a2, fun hk => ⟨by have := a3 hk; omega, (a3 hk).2⟩, fun F' hF' => ?_⟩
          obtain ⟨f, rfl⟩ : ∃ f, F' = f + 1 := ⟨F' - 1, by omega⟩
          rw [scan_hex_good h3 (by omega) h6 (b2 e (by omega))]
          exact a4 f (by omega)
      · rw [scan_other h3 h4 h5 h6] at h
        obtain ⟨rfl, rfl, rfl⟩ := by simpa using h
        refine ⟨by omega, by omega, by simp, fun F' hF' => ?_⟩
        obtain ⟨f, rfl⟩ : ∃ f, F' = f + 1 := ⟨F' - 1, by omega⟩
        exact scan_cut (by omega) h3 (Nat.le_refl _)
    · rw [scan_plain h0 h1 h2 h3] at h
      obtain ⟨a1, a2, a3, a4⟩ := ih (j + 1) esc e b ok h (by omega) (by omega)
      refine ⟨by omega, a2, fun hk => ⟨by have := a3 hk; omega, (a3 hk).2⟩, fun F' hF' => ?_⟩
      obtain ⟨f, rfl⟩ : ∃ f, F' = f + 1 := ⟨F' - 1, by omega⟩
      rw [scan_plain (by omega) h1 h2 h3]
      exact a4 f (by omega)
end Go.Proofs.Qxb6602995a.Scan
