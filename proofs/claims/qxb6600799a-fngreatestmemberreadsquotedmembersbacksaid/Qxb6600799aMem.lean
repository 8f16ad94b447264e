/- Members written in quotes: the plain side. No Go in sight. -/
namespace Go.Proofs.Qxb6600799a.Mem

/-- One byte of a member, a quote or a backslash doubled. -/
def dblB (c : Int) : List Int := if c = 39 ∨ c = 92 then [c, c] else [c]
def dbl : List Int → List Int
  | [] => []
  | c :: r => dblB c ++ dbl r
/-- A member in quotes. -/
def qm (m : List Int) : List Int := 39 :: (dbl m ++ [39])
/-- The members, commas between them. -/
def joinL : List (List Int) → List Int
  | [] => []
  | [m] => qm m
  | m :: m' :: r => qm m ++ 44 :: joinL (m' :: r)

theorem dbl_snoc : ∀ (l : List Int) (c : Int), dbl (l ++ [c]) = dbl l ++ dblB c := by
  intro l
  induction l with
  | nil => intro c; simp [dbl]
  | cons d r ih => intro c; simp [dbl, ih]

theorem dbl_len : ∀ l : List Int, (dbl l).length ≤ 2 * l.length := by
  intro l
  induction l with
  | nil => simp [dbl]
  | cons c r ih =>
    have : (dblB c).length ≤ 2 := by unfold dblB; split <;> simp
    simp only [dbl, List.length_append, List.length_cons]
    omega

theorem joinL_snoc : ∀ (ms : List (List Int)) (m : List Int), joinL (ms ++ [m]) = joinL ms ++ ((if ms = [] then [] else [44]) ++ qm m) := by
  intro ms
  induction ms with
  | nil => intro m; simp [joinL]
  | cons a r ih =>
    intro m
    cases r with
    | nil => simp [joinL]
    | cons b r =>
      have := ih m
      simp only [List.cons_append] at this ⊢
      rw [joinL, this]
      simp [joinL]

/-- What is still ahead inside a member's quotes, r behind the closing one; or the second of two backslashes. -/
def InQ (r L : List Int) : Prop := ∃ b, L = dbl b ++ 39 :: r ∨ L = 92 :: (dbl b ++ 39 :: r)

/-- One look: the closing quote; a doubled quote; any other byte. -/
theorem InQ.look {r L : List Int} (h : InQ r L) : L = 39 :: r ∨ (∃ L', L = 39 :: 39 :: L' ∧ InQ r L') ∨ ∃ c L', L = c :: L' ∧ c ≠ 39 ∧ InQ r L' := by
  obtain ⟨b, rfl | rfl⟩ := h
  · cases b with
    | nil => exact .inl rfl
    | cons c b =>
      by_cases h1 : c = 39
      · subst h1
        exact .inr (.inl ⟨dbl b ++ 39 :: r, by simp [dbl, dblB], b, .inl rfl⟩)
      · by_cases h2 : c = 92
        · subst h2
          exact .inr (.inr ⟨92, 92 :: (dbl b ++ 39 :: r), by simp [dbl, dblB], by omega, b, .inr rfl⟩)
        · exact .inr (.inr ⟨c, dbl b ++ 39 :: r, by simp [dbl, dblB, h1, h2], h1, b, .inl rfl⟩)
  · exact .inr (.inr ⟨92, dbl b ++ 39 :: r, rfl, by omega, b, .inl rfl⟩)

/-- How long the list of members is, with what it takes. -/
def weigh : List (List Int) → Nat
  | [] => 0
  | m :: r => 16 + m.length + weigh r

theorem weigh_snoc : ∀ (ms : List (List Int)) (m : List Int), weigh (ms ++ [m]) = weigh ms + (16 + m.length) := by
  intro ms
  induction ms with
  | nil => intro m; simp [weigh]
  | cons a r ih => intro m; simp only [List.cons_append, weigh, ih]; omega

theorem weigh_take : ∀ (ms : List (List Int)) (k : Nat), weigh (ms.take k) ≤ weigh ms := by
  intro ms
  induction ms with
  | nil => intro k; simp [weigh]
  | cons a r ih =>
    intro k
    cases k with
    | zero => simp [weigh]
    | succ k => simp only [List.take_succ_cons, weigh]; have := ih k; omega

theorem len_weigh : ∀ ms : List (List Int), 16 * ms.length ≤ weigh ms := by
  intro ms
  induction ms with
  | nil => simp [weigh]
  | cons a r ih => simp only [weigh, List.length_cons]; omega

theorem joinL_len : ∀ ms : List (List Int), (joinL ms).length ≤ 2 * weigh ms := by
  intro ms
  induction ms with
  | nil => simp [joinL]
  | cons a r ih =>
    have h := dbl_len a
    cases r with
    | nil => simp only [joinL, qm, weigh, List.length_cons, List.length_append, List.length_nil]; omega
    | cons b r => simp only [joinL, qm, weigh, List.length_cons, List.length_append, List.length_nil] at ih ⊢; omega
end Go.Proofs.Qxb6600799a.Mem
