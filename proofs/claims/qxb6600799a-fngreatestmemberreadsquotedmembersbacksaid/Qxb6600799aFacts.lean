/- Closed facts of the program's head, each once. The head is a text of 244 signs: parted into words inside the kernel it costs more memory than the lid allows, so its words are said here as lists of signs, and that they are its words is proved by a lemma. -/
import Derived.Test.Qxb6600799aRows
import Derived.ProofKit
namespace Go.Proofs.Qxb6600799a

def headWords : List (List Nat) := [[104, 97, 114, 110, 101, 115, 115], [54, 55, 55, 97, 56, 98, 57, 52, 99, 98, 55, 100, 102, 57, 52, 97, 51, 99, 99, 102, 98, 56, 53, 100, 54, 101, 50, 55, 100, 49, 100, 97, 48, 102, 49, 100, 49, 98, 54, 55, 56, 100, 48, 57, 51, 56, 102, 51, 99, 98, 57, 54, 52, 55, 49, 52, 55, 56, 50, 55, 101, 99, 57, 48]]
def tailWords : List (List Nat) := [[99, 117, 116], [97, 116], [101, 120, 97, 109, 112, 108, 101, 46, 99, 111, 109, 47, 108, 101, 97, 102, 109, 97, 114, 107, 47, 108, 101, 97, 102, 109, 97, 114, 107, 47, 122, 122, 108, 97, 119, 115, 95, 114, 111, 111, 116, 95, 98, 49, 46, 70, 110, 71, 114, 101, 97, 116, 101, 115, 116, 77, 101, 109, 98, 101, 114, 77, 97, 116, 99, 104, 101, 115, 83, 116, 97, 116, 101, 77, 97, 99, 104, 105, 110, 101], [101, 120, 97, 109, 112, 108, 101, 46, 99, 111, 109, 47, 108, 101, 97, 102, 109, 97, 114, 107, 47, 108, 101, 97, 102, 109, 97, 114, 107, 47, 122, 122, 108, 97, 119, 115, 95, 114, 111, 111, 116, 95, 98, 49, 46, 70, 110, 71, 114, 101, 97, 116, 101, 115, 116, 77, 101, 109, 98, 101, 114, 82, 101, 97, 100, 115, 81, 117, 111, 116, 101, 100, 77, 101, 109, 98, 101, 114, 115, 66, 97, 99, 107]]

def spell : List (List Nat) → List Char
  | [] => []
  | [w] => w.map Char.ofNat
  | w :: v :: r => w.map Char.ofNat ++ ' ' :: spell (v :: r)

theorem wordsSigns_plain : ∀ w : List Char, (w.all (· != ' ')) = true → wordsSigns w = [w] := by
  intro w
  induction w with
  | nil => intro _; rfl
  | cons c r ih =>
    intro h
    simp only [List.all_cons, Bool.and_eq_true, bne_iff_ne, ne_eq] at h
    rw [wordsSigns, ih h.2]
    intro e
    exact h.1 e

theorem wordsSigns_app (rest : List Char) : ∀ w : List Char, (w.all (· != ' ')) = true → wordsSigns (w ++ ' ' :: rest) = w :: wordsSigns rest := by
  intro w
  induction w with
  | nil => intro _; rw [List.nil_append, wordsSigns]
  | cons c r ih =>
    intro h
    simp only [List.all_cons, Bool.and_eq_true, bne_iff_ne, ne_eq] at h
    rw [List.cons_append, wordsSigns, ih h.2]
    intro e
    exact h.1 e

theorem words_spell : ∀ ws : List (List Nat), ws ≠ [] → (ws.all fun w => (w.map Char.ofNat).all (· != ' ')) = true → wordsSigns (spell ws) = ws.map (·.map Char.ofNat) := by
  intro ws
  induction ws with
  | nil => intro h; exact absurd rfl h
  | cons w r ih =>
    intro _ h
    cases r with
    | nil =>
      simp only [List.all_cons, List.all_nil, Bool.and_true] at h
      rw [spell, wordsSigns_plain _ h]
      rfl
    | cons v r =>
      rw [List.all_cons, Bool.and_eq_true] at h
      rw [spell, wordsSigns_app _ _ h.1, ih (by simp) h.2]
      rfl

theorem Try.order : Try.prog.initOrder = String.ofList (spell (headWords ++ tailWords)) := by kernel_rfl
theorem Try.plainWords : ((headWords ++ tailWords).all fun w => (w.map Char.ofNat).all (· != ' ')) = true := by kernel_rfl
theorem Try.words : wordsSigns Try.prog.initOrder.toList = (headWords ++ tailWords).map (·.map Char.ofNat) := by
  rw [Try.order, String.toList_ofList, words_spell _ (by simp [headWords]) Try.plainWords]
theorem Try.behind : behindMainWord (wordsSigns Try.prog.initOrder.toList) = tailWords.map (·.map Char.ofNat) := by
  rw [Try.words]
  kernel_rfl

theorem mayEnter_of {P : Program} (h : behindMainWord (wordsSigns P.initOrder.toList) = tailWords.map (·.map Char.ofNat)) (h1 : P.laysLater = false) (h2 : P.bearsReflect = false) (h3 : P.doorRows = []) : P.mayEnter = true := by
  unfold Program.mayEnter Program.doorFits
  rw [h, h1, h2, h3]
  kernel_rfl
theorem Try.later : Try.prog.laysLater = false := by kernel_rfl
theorem Try.reflects : Try.prog.bearsReflect = false := by kernel_rfl
theorem Try.doors : Try.prog.doorRows = [] := by kernel_rfl
theorem Try.mayEnter : Try.prog.mayEnter = true := mayEnter_of Try.behind Try.later Try.reflects Try.doors

theorem headLifts_of {P : Program} (h : behindMainWord (wordsSigns P.initOrder.toList) = tailWords.map (·.map Char.ofNat)) : P.headLifts = [] := by
  unfold Program.headLifts
  rw [h]
  kernel_rfl
theorem Try.headLifts : Try.prog.headLifts = [] := headLifts_of Try.behind

theorem liftsFinal_of {P : Program} (h : behindMainWord (wordsSigns P.initOrder.toList) = tailWords.map (·.map Char.ofNat)) (hl : P.headLifts = []) : P.liftsFinal = false := by
  unfold Program.liftsFinal
  rw [h, hl]
  kernel_rfl
theorem Try.liftsFinal : Try.prog.liftsFinal = false := liftsFinal_of Try.behind Try.headLifts

theorem make_of {P : Program} (h : behindMainWord (wordsSigns P.initOrder.toList) = tailWords.map (·.map Char.ofNat)) : P.make = some .cut := by
  unfold Program.make
  rw [h]
  kernel_rfl
theorem Try.make : Try.prog.make = some .cut := make_of Try.behind
end Go.Proofs.Qxb6600799a
