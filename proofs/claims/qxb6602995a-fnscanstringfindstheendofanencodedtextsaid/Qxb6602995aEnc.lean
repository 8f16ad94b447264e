/- The plain law: a text that was written as a JSON string is scanned whole. No Go in sight. -/
import Derived.Test.Qxb6602995aScan
namespace Go.Proofs.Qxb6602995a.Scan

def hexd (v : Int) (up : Bool) : Int := if v < 10 then 48 + v else if up = true then 65 + v - 10 else 97 + v - 10

/-- Byte c at place p, written. -/
def encB (p : Nat) (c : Int) : List Int :=
  if c = 34 then [92, 34] else if c = 92 then [92, 92] else if c = 47 then [92, 47] else if c = 10 then [92, 110] else if c = 9 then [92, 116]
  else if c = 8 then [92, 98] else if c = 12 then [92, 102] else if c = 13 then [92, 114]
  else if c < 32 then [92, 117, 48, 48, hexd (c / 16) (decide (p % 2 = 1)), hexd (c % 16) (decide (p % 2 = 1))] else [c]

def encL : Nat → List Int → List Int
  | _, [] => []
  | p, c :: r => encB p c ++ encL (p + 1) r

def needB (c : Int) : Bool := decide (c = 34 ∨ c = 92 ∨ c = 47 ∨ c < 32)

def needL : List Int → Bool
  | [] => false
  | c :: r => needB c || needL r

theorem encB_len (p : Nat) (c : Int) : (encB p c).length ≤ 6 := by
  unfold encB
  repeat' split
  all_goals simp

theorem encL_len : ∀ (l : List Int) (p : Nat), (encL p l).length ≤ 6 * l.length := by
  intro l
  induction l with
  | nil => intro p; simp [encL]
  | cons c r ih =>
    intro p
    have h1 := encB_len p c
    have h2 := ih (p + 1)
    simp only [encL, List.length_append, List.length_cons]
    omega

theorem encL_snoc : ∀ (l : List Int) (p : Nat) (c : Int), encL p (l ++ [c]) = encL p l ++ encB (p + l.length) c := by
  intro l
  induction l with
  | nil => intro p c; simp [encL]
  | cons d r ih =>
    intro p c
    simp only [List.cons_append, encL, ih, List.length_cons, List.append_assoc]
    rw [show p + 1 + r.length = p + (r.length + 1) by omega]

theorem needL_snoc : ∀ (l : List Int) (c : Int), needL (l ++ [c]) = (needL l || needB c) := by
  intro l
  induction l with
  | nil => intro c; simp [needL]
  | cons d r ih => intro c; simp [needL, ih, Bool.or_assoc]

theorem hexd_hex {v : Int} {up : Bool} (h0 : 0 ≤ v) (h1 : v < 16) : hexB (hexd v up) = true := by
  unfold hexd hexB
  refine decide_eq_true ?_
  cases up <;> (split <;> first | omega | (simp only [Bool.false_eq_true, if_false, if_true]; omega))

/-- What holds of the data from place j on, at the head of a list. -/
def At (g : Nat → Int) (j : Nat) (l : List Int) : Prop := ∀ t, t < l.length → g (j + t) = l.getD t 0

theorem At.left {g : Nat → Int} {j : Nat} {a b : List Int} (h : At g j (a ++ b)) : At g j a := fun t ht => by
  rw [h t (by rw [List.length_append]; omega), List.getD_eq_getElem?_getD, List.getD_eq_getElem?_getD, List.getElem?_append_left ht]
theorem At.right {g : Nat → Int} {j : Nat} {a b : List Int} (h : At g j (a ++ b)) : At g (j + a.length) b := fun t ht => by
  have := h (a.length + t) (by rw [List.length_append]; omega)
  rw [List.getD_eq_getElem?_getD, List.getElem?_append_right (by omega), show a.length + t - a.length = t by omega, ← List.getD_eq_getElem?_getD] at this
  rw [Nat.add_assoc]
  exact this

theorem short_of {c : Int} (h : c = 34 ∨ c = 92 ∨ c = 47 ∨ c = 98 ∨ c = 102 ∨ c = 110 ∨ c = 114 ∨ c = 116) : shortB c = true := decide_eq_true h

theorem scan_enc (g : Nat → Int) (n : Nat) : ∀ (r : List Int) (p j F : Nat) (esc : Bool), (∀ c ∈ r, 0 ≤ c ∧ c ≤ 255) → At g j (encL p r ++ [34]) → j + (encL p r).length + 1 ≤ n → n ≤ j + F →
    scanS g n F j esc = (j + (encL p r).length + 1, esc || needL r, true) := by
  intro r
  induction r with
  | nil =>
    intro p j F esc _ hA h1 h2
    have h0 : g j = 34 := by simpa [encL] using hA 0 (by simp [encL])
    simp only [encL, List.length_nil, Nat.add_zero] at h1 ⊢
    obtain ⟨f, rfl⟩ : ∃ f, F = f + 1 := ⟨F - 1, by omega⟩
    rw [scan_quote (by omega) h0]
    simp [needL]
  | cons c r ih =>
    intro p j F esc hb hA h1 h2
    obtain ⟨f, rfl⟩ : ∃ f, F = f + 1 := ⟨F - 1, by omega⟩
    have hc := hb c (by simp)
    have hb' : ∀ d ∈ r, 0 ≤ d ∧ d ≤ 255 := fun d hd => hb d (by simp [hd])
    simp only [encL, List.append_assoc] at hA
    have hL := hA.left
    have hR := hA.right
    simp only [encL, List.length_append] at h1 ⊢
    -- a short escape
    have short : ∀ e : Int, encB p c = [92, e] → (e = 34 ∨ e = 92 ∨ e = 47 ∨ e = 98 ∨ e = 102 ∨ e = 110 ∨ e = 114 ∨ e = 116) → needB c = true →
        scanS g n (f + 1) j esc = (j + ((encB p c).length + (encL (p + 1) r).length) + 1, esc || needL (c :: r), true) := by
      intro e he hs hn
      rw [he] at hL hR h1 ⊢
      have g0 : g j = 92 := by simpa using hL 0 (by simp)
      have g1 : g (j + 1) = e := by simpa using hL 1 (by simp)
      simp only [List.length_cons, List.length_nil] at h1 hR ⊢
      rw [scan_short g0 (by omega) (by rw [g1]; exact short_of hs), ih (p + 1) (j + 2) f true hb' hR (by omega) (by omega)]
      simp only [needL, hn, Bool.true_or, Bool.or_true, Prod.mk.injEq, and_true]
      omega
    by_cases c1 : c = 34
    · exact short 34 (by simp [encB, c1]) (by omega) (decide_eq_true (by omega))
    by_cases c2 : c = 92
    · exact short 92 (by simp [encB, c2]) (by omega) (decide_eq_true (by omega))
    by_cases c3 : c = 47
    · exact short 47 (by simp [encB, c3]) (by omega) (decide_eq_true (by omega))
    by_cases c4 : c = 10
    · exact short 110 (by simp [encB, c4]) (by omega) (decide_eq_true (by omega))
    by_cases c5 : c = 9
    · exact short 116 (by simp [encB, c5]) (by omega) (decide_eq_true (by omega))
    by_cases c6 : c = 8
    · exact short 98 (by simp [encB, c6]) (by omega) (decide_eq_true (by omega))
    by_cases c7 : c = 12
    · exact short 102 (by simp [encB, c7]) (by omega) (decide_eq_true (by omega))
    by_cases c8 : c = 13
    · exact short 114 (by simp [encB, c8]) (by omega) (decide_eq_true (by omega))
    clear short
    by_cases c9 : c < 32
    · have he : encB p c = [92, 117, 48, 48, hexd (c / 16) (decide (p % 2 = 1)), hexd (c % 16) (decide (p % 2 = 1))] := by
        unfold encB
        rw [if_neg c1, if_neg c2, if_neg c3, if_neg c4, if_neg c5, if_neg c6, if_neg c7, if_neg c8, if_pos c9]
      rw [he] at hL hR h1 ⊢
      have g0 : g j = 92 := by simpa using hL 0 (by simp)
      have g1 : g (j + 1) = 117 := by simpa using hL 1 (by simp)
      have g2 : g (j + 2) = 48 := by simpa using hL 2 (by simp)
      have g3 : g (j + 3) = 48 := by simpa using hL 3 (by simp)
      have g4 : g (j + 4) = hexd (c / 16) (decide (p % 2 = 1)) := by simpa using hL 4 (by simp)
      have g5 : g (j + 5) = hexd (c % 16) (decide (p % 2 = 1)) := by simpa using hL 5 (by simp)
      simp only [List.length_cons, List.length_nil] at h1 hR ⊢
      have hex : hexBad g n 4 (j + 2) = none := by
        have q2 : hexB (g (j + 2)) = true := by rw [g2]; decide
        have q3 : hexB (g (j + 2 + 1)) = true := by rw [show j + 2 + 1 = j + 3 by omega, g3]; decide
        have q4 : hexB (g (j + 2 + 1 + 1)) = true := by rw [show j + 2 + 1 + 1 = j + 4 by omega, g4]; exact hexd_hex (by omega) (by omega)
        have q5 : hexB (g (j + 2 + 1 + 1 + 1)) = true := by rw [show j + 2 + 1 + 1 + 1 = j + 5 by omega, g5]; exact hexd_hex (by omega) (by omega)
        rw [hexBad, if_neg (by rw [q2]; simp; omega), hexBad, if_neg (by rw [q3]; simp; omega), hexBad, if_neg (by rw [q4]; simp; omega), hexBad, if_neg (by rw [q5]; simp; omega), hexBad]
      rw [scan_hex_good g0 (by omega) g1 hex, ih (p + 1) (j + 6) f true hb' hR (by omega) (by omega)]
      simp only [needL, show needB c = true from decide_eq_true (by omega), Bool.true_or, Bool.or_true, Prod.mk.injEq, and_true]
      omega
    · have he : encB p c = [c] := by
        unfold encB
        rw [if_neg c1, if_neg c2, if_neg c3, if_neg c4, if_neg c5, if_neg c6, if_neg c7, if_neg c8, if_neg c9]
      rw [he] at hL hR h1 ⊢
      have g0 : g j = c := by simpa using hL 0 (by simp)
      simp only [List.length_cons, List.length_nil] at h1 hR ⊢
      rw [scan_plain (by omega) (by omega) (by omega) (by omega), ih (p + 1) (j + 1) f esc hb' hR (by omega) (by omega)]
      simp only [needL, show needB c = false from decide_eq_false (by omega), Bool.false_or, Prod.mk.injEq, and_true]
      omega

/-- THE LAW. -/
theorem finds_end (head s tail : List Int) (hb : ∀ c ∈ s, 0 ≤ c ∧ c ≤ 255) (g : Nat → Int) (n : Nat) (hn : n = head.length + (encL 0 s).length + 2 + tail.length) (hA : At g 0 (head ++ ([34] ++ (encL 0 s ++ ([34] ++ tail))))) :
    scanS g n n (head.length + 1) false = (head.length + (encL 0 s).length + 2, needL s, true) := by
  have h1 := hA.right.right
  simp only [List.length_cons, List.length_nil] at h1
  rw [← List.append_assoc] at h1
  have h2 := h1.left
  have := scan_enc g n s 0 (head.length + 1) n false hb (by simpa using h2) (by omega) (by omega)
  rw [this]
  simp only [Bool.false_or, Prod.mk.injEq, and_true]
  omega
end Go.Proofs.Qxb6602995a.Scan
