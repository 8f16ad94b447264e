/- The plain law: a number that was written out is scanned whole. No Go in sight. -/
import Derived.Test.Qxb6602995aNumLaw
namespace Go.Proofs.Qxb6602995a.Num

/-- From place i on the data hold just l. -/
structure Rem (g : Nat → Int) (n i : Nat) (l : List Int) : Prop where
  at_ : ∀ t, t < l.length → g (i + t) = l.getD t 0
  len : n = i + l.length

def Digs (l : List Int) : Prop := ∀ c ∈ l, digB c = true
/-- What holds of a list's first number, where there is one. -/
def Hd (P : Int → Prop) (l : List Int) : Prop := ∀ c r, l = c :: r → P c

section
variable {g : Nat → Int} {n i : Nat}

theorem Rem.app {a b : List Int} (h : Rem g n i (a ++ b)) : Rem g n (i + a.length) b :=
  ⟨fun t ht => by
    have := h.at_ (a.length + t) (by rw [List.length_append]; omega)
    rw [List.getD_eq_getElem?_getD, List.getElem?_append_right (by omega), show a.length + t - a.length = t by omega, ← List.getD_eq_getElem?_getD] at this
    rw [Nat.add_assoc]
    exact this, by rw [h.len, List.length_append]; omega⟩

theorem Rem.left {a b : List Int} (h : Rem g n i (a ++ b)) (t : Nat) (ht : t < a.length) : g (i + t) = a.getD t 0 := by
  rw [h.at_ t (by rw [List.length_append]; omega), List.getD_eq_getElem?_getD, List.getD_eq_getElem?_getD, List.getElem?_append_left ht]

theorem Rem.head {c : Int} {r : List Int} (h : Rem g n i (c :: r)) : g i = c ∧ i < n := by
  have h1 := h.at_ 0 (by simp)
  have h2 := h.len
  simp at h1 h2
  exact ⟨h1, by omega⟩

theorem Rem.tail {c : Int} {r : List Int} (h : Rem g n i (c :: r)) : Rem g n (i + 1) r := by
  have h' : Rem g n i ([c] ++ r) := h
  exact h'.app

/-- The first number of what is left. -/
theorem Rem.hd {P : Int → Prop} {l : List Int} (h : Rem g n i l) (hp : Hd P l) (hi : i < n) : P (g i) := by
  cases l with
  | nil => have := h.len; simp at this; omega
  | cons c r => rw [h.head.1]; exact hp c r rfl

theorem Rem.skip {D R : List Int} (h : Rem g n i (D ++ R)) (hD : Digs D) (hR : Hd (fun c => digB c = false) R) : skipD g n n i = i + D.length := by
  have hl := h.len
  rw [List.length_append] at hl
  refine skip_unique g n n i _ (by omega) (by omega) (by omega) (by omega) (fun t h1 h2 => ?_) (fun h2 => h.app.hd hR h2)
  have := h.left (t - i) (by omega)
  rw [show i + (t - i) = t by omega] at this
  rw [this, List.getD_eq_getElem?_getD, List.getElem?_eq_getElem (show t - i < D.length by omega)]
  exact hD _ (List.getElem_mem _)

/-- The exponent's text: none, or e, a sign or none, digits. -/
def ExpT (l : List Int) : Prop := l = [] ∨ ∃ e SG D, l = e :: (SG ++ D) ∧ (e = 101 ∨ e = 69) ∧ (SG = [] ∨ SG = [43] ∨ SG = [45]) ∧ Digs D ∧ D ≠ []
/-- The fraction's text: none, or a point and digits. -/
def FracT (l : List Int) : Prop := l = [] ∨ ∃ D, l = 46 :: D ∧ Digs D ∧ D ≠ []
/-- A whole number's text: a single 0, or digits that begin with another. -/
def IntT (l : List Int) : Prop := l = [48] ∨ ∃ c D, l = c :: D ∧ digB c = true ∧ c ≠ 48 ∧ Digs D
/-- What may follow a number. -/
def TailT (l : List Int) : Prop := Hd (fun c => digB c = false ∧ c ≠ 46 ∧ c ≠ 101 ∧ c ≠ 69) l

theorem hd_imp {P Q : Int → Prop} {l : List Int} (h : Hd P l) (k : ∀ c, P c → Q c) : Hd Q l := fun c r e => k c (h c r e)

theorem exp_text {X T : List Int} (h : Rem g n i (X ++ T)) (hX : ExpT X) (hT : TailT T) : expP g n i = (i + X.length, true) := by
  rw [expP]
  rcases hX with rfl | ⟨e, SG, D, rfl, he, hS, hD, hne⟩
  · rw [if_neg]
    · rfl
    · rintro ⟨h1, h2⟩
      have := Rem.hd (P := fun c => digB c = false ∧ c ≠ 46 ∧ c ≠ 101 ∧ c ≠ 69) h hT h1
      omega
  · rw [List.cons_append] at h
    obtain ⟨g0, h0⟩ := h.head
    have h1 := h.tail
    rw [if_pos ⟨h0, by rw [g0]; exact he⟩]
    have hTd : Hd (fun c => digB c = false) T := hd_imp hT (fun c q => q.1)
    have hpos : 0 < D.length := List.length_pos_iff.2 hne
    rcases hS with rfl | hS
    · rw [List.nil_append] at h1 ⊢
      obtain ⟨c, D', rfl⟩ := List.exists_cons_of_ne_nil hne
      have hc := (h1.head).1
      have hdc : digB c = true := hD c (by simp)
      have hcn : ¬ (c = 43 ∨ c = 45) := by
        have : 48 ≤ c ∧ c ≤ 57 := of_decide_eq_true hdc
        omega
      simp only [if_neg (show ¬ (i + 1 < n ∧ (g (i + 1) = 43 ∨ g (i + 1) = 45)) from fun q => hcn (by rw [← hc]; exact q.2))]
      rw [h1.skip hD hTd, if_pos (by simp)]
      simp only [List.length_cons, Prod.mk.injEq, and_true]
      omega
    · have hsg : ∃ c, SG = [c] ∧ (c = 43 ∨ c = 45) := by
        rcases hS with rfl | rfl
        · exact ⟨43, rfl, .inl rfl⟩
        · exact ⟨45, rfl, .inr rfl⟩
      obtain ⟨c, rfl, hc⟩ := hsg
      have h1' : Rem g n (i + 1) (c :: (D ++ T)) := by simpa using h1
      obtain ⟨gc, hcn⟩ := h1'.head
      have h2 := h1'.tail
      simp only [if_pos (show i + 1 < n ∧ (g (i + 1) = 43 ∨ g (i + 1) = 45) from ⟨hcn, by rw [gc]; exact hc⟩)]
      rw [show i + 2 = i + 1 + 1 from rfl, h2.skip hD hTd, if_pos (by omega)]
      simp only [List.length_cons, List.length_append, List.length_nil, Prod.mk.injEq, and_true]
      omega

theorem exp_hd {X T : List Int} (hX : ExpT X) (hT : TailT T) : Hd (fun c => digB c = false ∧ c ≠ 46) (X ++ T) := by
  rcases hX with rfl | ⟨e, SG, D, rfl, he, _⟩
  · exact hd_imp hT (fun c q => ⟨q.1, q.2.1⟩)
  · intro c r hc
    rw [List.cons_append] at hc
    injection hc with h1 _
    subst h1
    rcases he with rfl | rfl
    · exact ⟨by decide, by omega⟩
    · exact ⟨by decide, by omega⟩

theorem frac_text {F X T : List Int} (h : Rem g n i (F ++ (X ++ T))) (hF : FracT F) (hX : ExpT X) (hT : TailT T) : fracP g n i = (i + F.length + X.length, true) := by
  rw [fracP]
  have hh := exp_hd hX hT
  rcases hF with rfl | ⟨D, rfl, hD, hne⟩
  · rw [if_neg, exp_text (X := X) (T := T) h hX hT]
    · rfl
    · rintro ⟨h1, h2⟩
      have := Rem.hd (P := fun c => digB c = false ∧ c ≠ 46) h hh h1
      exact this.2 h2
  · rw [List.cons_append] at h
    obtain ⟨g0, h0⟩ := h.head
    have h1 := h.tail
    have hpos : 0 < D.length := List.length_pos_iff.2 hne
    rw [if_pos ⟨h0, g0⟩, h1.skip hD (hd_imp hh (fun c q => q.1)), if_neg (by omega), exp_text h1.app hX hT]
    simp only [List.length_cons, Prod.mk.injEq, and_true]
    omega

theorem frac_hd {F X T : List Int} (hF : FracT F) (hX : ExpT X) (hT : TailT T) : Hd (fun c => digB c = false) (F ++ (X ++ T)) := by
  rcases hF with rfl | ⟨D, rfl, _⟩
  · exact hd_imp (exp_hd (X := X) (T := T) hX hT) (fun c q => q.1)
  · intro c r hc
    rw [List.cons_append] at hc
    injection hc with h1 _
    subst h1
    decide

theorem int_text {I F X T : List Int} (h : Rem g n i (I ++ (F ++ (X ++ T)))) (hI : IntT I) (hF : FracT F) (hX : ExpT X) (hT : TailT T) : intP g n i = (i + I.length + F.length + X.length, true) := by
  rw [intP]
  rcases hI with rfl | ⟨c, D, rfl, hc, hc0, hD⟩
  · have h' : Rem g n i (48 :: (F ++ (X ++ T))) := h
    obtain ⟨g0, h0⟩ := h'.head
    rw [if_pos ⟨h0, g0⟩, frac_text h'.tail hF hX hT]
    rfl
  · have h' : Rem g n i (c :: (D ++ (F ++ (X ++ T)))) := by simpa using h
    obtain ⟨g0, h0⟩ := h'.head
    have hDD : Digs (c :: D) := by
      intro d hd
      rcases List.mem_cons.1 hd with rfl | hd
      · exact hc
      · exact hD d hd
    rw [if_neg (fun q => hc0 (by rw [← g0]; exact q.2)), if_pos ⟨h0, by rw [g0]; exact hc⟩, h.skip hDD (frac_hd hF hX hT), frac_text h.app hF hX hT]

/-- THE LAW. -/
theorem reads_written {S I F X T : List Int} (h : Rem g n i (S ++ (I ++ (F ++ (X ++ T))))) (hS : S = [] ∨ S = [45]) (hI : IntT I) (hF : FracT F) (hX : ExpT X) (hT : TailT T) :
    scanN g n i = (i + S.length + I.length + F.length + X.length, true) := by
  rw [scanN]
  rcases hS with rfl | rfl
  · have hI0 : g i ≠ 45 := by
      rcases hI with rfl | ⟨c, D, rfl, hc, _, _⟩
      · have h' : Rem g n i (48 :: (F ++ (X ++ T))) := h
        have := h'.head.1
        omega
      · have h' : Rem g n i (c :: (D ++ (F ++ (X ++ T)))) := by simpa using h
        have h2 := h'.head.1
        have : 48 ≤ c ∧ c ≤ 57 := of_decide_eq_true hc
        omega
    rw [if_neg hI0, int_text (I := I) (F := F) (X := X) (T := T) h hI hF hX hT]
    rfl
  · have h' : Rem g n i (45 :: (I ++ (F ++ (X ++ T)))) := h
    rw [if_pos h'.head.1, int_text h'.tail hI hF hX hT]
    rfl
end
end Go.Proofs.Qxb6602995a.Num
