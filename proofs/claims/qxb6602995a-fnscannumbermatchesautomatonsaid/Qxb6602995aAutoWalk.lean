/- The walks of jsonNumberStep, jsonNumberAccepts, jsonNumberAutomaton. -/
import Derived.Test.Qxb6602995aBase
import Derived.Test.Qxb6602995aAuto
namespace Go.Proofs.Qxb6602995a
set_option linter.unusedSimpArgs false
open Go.RowKit

theorem jsonNumberAccepts_any (st : Nat) (w : World) (h : st ≤ 8) :
    Calls Try.prog 40 #[.int .i64 st] w fun e w' => e = .returned (.bool (Num.accN st)) ∧ w' = w := by
  rcases (show st = 0 ∨ st = 1 ∨ st = 2 ∨ st = 3 ∨ st = 4 ∨ st = 5 ∨ st = 6 ∨ st = 7 ∨ st = 8 by omega) with rfl | rfl | rfl | rfl | rfl | rfl | rfl | rfl | rfl
  all_goals
    go_enter Try.func40, Try.ntmps40
    go_wp2
    go_ret
    exact ⟨rfl, rfl⟩

/-- The bytes that the step tells apart. -/
theorem classes (c : Int) : c = 45 ∨ c = 43 ∨ c = 46 ∨ c = 101 ∨ c = 69 ∨ c = 48 ∨ ((c == 45) = false ∧ (c == 43) = false ∧ (c == 46) = false ∧ (c == 101) = false ∧ (c == 69) = false ∧ (c == 48) = false ∧ 49 ≤ c ∧ c ≤ 57) ∨
    ((c == 45) = false ∧ (c == 43) = false ∧ (c == 46) = false ∧ (c == 101) = false ∧ (c == 69) = false ∧ (c == 48) = false ∧ c < 48) ∨
    ((c == 45) = false ∧ (c == 43) = false ∧ (c == 46) = false ∧ (c == 101) = false ∧ (c == 69) = false ∧ (c == 48) = false ∧ 57 < c) := by
  simp only [beq_eq_false_iff_ne]
  omega

set_option maxHeartbeats 1000000 in
theorem step_0 (c r : Int) (w : World) (hr : Num.stepN 0 c = r) :
    Calls Try.prog 39 #[.int .i64 0, .int .u8 c] w fun e w' => e = .returned (.int .i64 r) ∧ w' = w := by
  rcases classes c with rfl | rfl | rfl | rfl | rfl | rfl | ⟨d1, d2, d3, d4, d5, d6, h1, h2⟩ | ⟨d1, d2, d3, d4, d5, d6, h1⟩ | ⟨d1, d2, d3, d4, d5, d6, h1⟩
  iterate 6
    · subst hr
      go_enter Try.func39, Try.ntmps39
      go_wp2
      go_ret
      exact ⟨rfl, rfl⟩
  · obtain rfl : r = 3 := by
      rw [← hr]
      have hd : Num.digB c = true := decide_eq_true (by omega)
      simp only [beq_eq_false_iff_ne, ne_eq] at d1 d2 d3 d4 d5 d6
      simp [Num.stepN, hd, d1, d2, d3, d4, d5, d6]
    clear hr
    go_enter Try.func39, Try.ntmps39
    go_wp2
    go_ret
    exact ⟨rfl, rfl⟩
  · obtain rfl : r = -1 := by
      rw [← hr]
      have hd : Num.digB c = false := decide_eq_false (by omega)
      simp only [beq_eq_false_iff_ne, ne_eq] at d1 d2 d3 d4 d5 d6
      simp [Num.stepN, hd, d1, d2, d3, d4, d5, d6]
    clear hr
    go_enter Try.func39, Try.ntmps39
    go_wp2
    go_ret
    exact ⟨rfl, rfl⟩
  · obtain rfl : r = -1 := by
      rw [← hr]
      have hd : Num.digB c = false := decide_eq_false (by omega)
      simp only [beq_eq_false_iff_ne, ne_eq] at d1 d2 d3 d4 d5 d6
      simp [Num.stepN, hd, d1, d2, d3, d4, d5, d6]
    clear hr
    go_enter Try.func39, Try.ntmps39
    go_wp2
    go_ret
    exact ⟨rfl, rfl⟩

set_option maxHeartbeats 1000000 in
theorem step_1 (c r : Int) (w : World) (hr : Num.stepN 1 c = r) :
    Calls Try.prog 39 #[.int .i64 1, .int .u8 c] w fun e w' => e = .returned (.int .i64 r) ∧ w' = w := by
  rcases classes c with rfl | rfl | rfl | rfl | rfl | rfl | ⟨d1, d2, d3, d4, d5, d6, h1, h2⟩ | ⟨d1, d2, d3, d4, d5, d6, h1⟩ | ⟨d1, d2, d3, d4, d5, d6, h1⟩
  iterate 6
    · subst hr
      go_enter Try.func39, Try.ntmps39
      go_wp2
      go_ret
      exact ⟨rfl, rfl⟩
  · obtain rfl : r = 3 := by
      rw [← hr]
      have hd : Num.digB c = true := decide_eq_true (by omega)
      simp only [beq_eq_false_iff_ne, ne_eq] at d1 d2 d3 d4 d5 d6
      simp [Num.stepN, hd, d1, d2, d3, d4, d5, d6]
    clear hr
    go_enter Try.func39, Try.ntmps39
    go_wp2
    go_ret
    exact ⟨rfl, rfl⟩
  · obtain rfl : r = -1 := by
      rw [← hr]
      have hd : Num.digB c = false := decide_eq_false (by omega)
      simp only [beq_eq_false_iff_ne, ne_eq] at d1 d2 d3 d4 d5 d6
      simp [Num.stepN, hd, d1, d2, d3, d4, d5, d6]
    clear hr
    go_enter Try.func39, Try.ntmps39
    go_wp2
    go_ret
    exact ⟨rfl, rfl⟩
  · obtain rfl : r = -1 := by
      rw [← hr]
      have hd : Num.digB c = false := decide_eq_false (by omega)
      simp only [beq_eq_false_iff_ne, ne_eq] at d1 d2 d3 d4 d5 d6
      simp [Num.stepN, hd, d1, d2, d3, d4, d5, d6]
    clear hr
    go_enter Try.func39, Try.ntmps39
    go_wp2
    go_ret
    exact ⟨rfl, rfl⟩

set_option maxHeartbeats 1000000 in
theorem step_2 (c r : Int) (w : World) (hr : Num.stepN 2 c = r) :
    Calls Try.prog 39 #[.int .i64 2, .int .u8 c] w fun e w' => e = .returned (.int .i64 r) ∧ w' = w := by
  rcases classes c with rfl | rfl | rfl | rfl | rfl | rfl | ⟨d1, d2, d3, d4, d5, d6, h1, h2⟩ | ⟨d1, d2, d3, d4, d5, d6, h1⟩ | ⟨d1, d2, d3, d4, d5, d6, h1⟩
  iterate 6
    · subst hr
      go_enter Try.func39, Try.ntmps39
      go_wp2
      go_ret
      exact ⟨rfl, rfl⟩
  · obtain rfl : r = -1 := by
      rw [← hr]
      have hd : Num.digB c = true := decide_eq_true (by omega)
      simp only [beq_eq_false_iff_ne, ne_eq] at d1 d2 d3 d4 d5 d6
      simp [Num.stepN, hd, d1, d2, d3, d4, d5, d6]
    clear hr
    go_enter Try.func39, Try.ntmps39
    go_wp2
    go_ret
    exact ⟨rfl, rfl⟩
  · obtain rfl : r = -1 := by
      rw [← hr]
      have hd : Num.digB c = false := decide_eq_false (by omega)
      simp only [beq_eq_false_iff_ne, ne_eq] at d1 d2 d3 d4 d5 d6
      simp [Num.stepN, hd, d1, d2, d3, d4, d5, d6]
    clear hr
    go_enter Try.func39, Try.ntmps39
    go_wp2
    go_ret
    exact ⟨rfl, rfl⟩
  · obtain rfl : r = -1 := by
      rw [← hr]
      have hd : Num.digB c = false := decide_eq_false (by omega)
      simp only [beq_eq_false_iff_ne, ne_eq] at d1 d2 d3 d4 d5 d6
      simp [Num.stepN, hd, d1, d2, d3, d4, d5, d6]
    clear hr
    go_enter Try.func39, Try.ntmps39
    go_wp2
    go_ret
    exact ⟨rfl, rfl⟩

set_option maxHeartbeats 1000000 in
theorem step_3 (c r : Int) (w : World) (hr : Num.stepN 3 c = r) :
    Calls Try.prog 39 #[.int .i64 3, .int .u8 c] w fun e w' => e = .returned (.int .i64 r) ∧ w' = w := by
  rcases classes c with rfl | rfl | rfl | rfl | rfl | rfl | ⟨d1, d2, d3, d4, d5, d6, h1, h2⟩ | ⟨d1, d2, d3, d4, d5, d6, h1⟩ | ⟨d1, d2, d3, d4, d5, d6, h1⟩
  iterate 6
    · subst hr
      go_enter Try.func39, Try.ntmps39
      go_wp2
      go_ret
      exact ⟨rfl, rfl⟩
  · obtain rfl : r = 3 := by
      rw [← hr]
      have hd : Num.digB c = true := decide_eq_true (by omega)
      simp only [beq_eq_false_iff_ne, ne_eq] at d1 d2 d3 d4 d5 d6
      simp [Num.stepN, hd, d1, d2, d3, d4, d5, d6]
    clear hr
    go_enter Try.func39, Try.ntmps39
    go_wp2
    go_ret
    exact ⟨rfl, rfl⟩
  · obtain rfl : r = -1 := by
      rw [← hr]
      have hd : Num.digB c = false := decide_eq_false (by omega)
      simp only [beq_eq_false_iff_ne, ne_eq] at d1 d2 d3 d4 d5 d6
      simp [Num.stepN, hd, d1, d2, d3, d4, d5, d6]
    clear hr
    go_enter Try.func39, Try.ntmps39
    go_wp2
    go_ret
    exact ⟨rfl, rfl⟩
  · obtain rfl : r = -1 := by
      rw [← hr]
      have hd : Num.digB c = false := decide_eq_false (by omega)
      simp only [beq_eq_false_iff_ne, ne_eq] at d1 d2 d3 d4 d5 d6
      simp [Num.stepN, hd, d1, d2, d3, d4, d5, d6]
    clear hr
    go_enter Try.func39, Try.ntmps39
    go_wp2
    go_ret
    exact ⟨rfl, rfl⟩

set_option maxHeartbeats 1000000 in
theorem step_4 (c r : Int) (w : World) (hr : Num.stepN 4 c = r) :
    Calls Try.prog 39 #[.int .i64 4, .int .u8 c] w fun e w' => e = .returned (.int .i64 r) ∧ w' = w := by
  rcases classes c with rfl | rfl | rfl | rfl | rfl | rfl | ⟨d1, d2, d3, d4, d5, d6, h1, h2⟩ | ⟨d1, d2, d3, d4, d5, d6, h1⟩ | ⟨d1, d2, d3, d4, d5, d6, h1⟩
  iterate 6
    · subst hr
      go_enter Try.func39, Try.ntmps39
      go_wp2
      go_ret
      exact ⟨rfl, rfl⟩
  · obtain rfl : r = 5 := by
      rw [← hr]
      have hd : Num.digB c = true := decide_eq_true (by omega)
      simp only [beq_eq_false_iff_ne, ne_eq] at d1 d2 d3 d4 d5 d6
      simp [Num.stepN, hd, d1, d2, d3, d4, d5, d6]
    clear hr
    go_enter Try.func39, Try.ntmps39
    go_wp2
    go_ret
    exact ⟨rfl, rfl⟩
  · obtain rfl : r = -1 := by
      rw [← hr]
      have hd : Num.digB c = false := decide_eq_false (by omega)
      simp only [beq_eq_false_iff_ne, ne_eq] at d1 d2 d3 d4 d5 d6
      simp [Num.stepN, hd, d1, d2, d3, d4, d5, d6]
    clear hr
    go_enter Try.func39, Try.ntmps39
    go_wp2
    go_ret
    exact ⟨rfl, rfl⟩
  · obtain rfl : r = -1 := by
      rw [← hr]
      have hd : Num.digB c = false := decide_eq_false (by omega)
      simp only [beq_eq_false_iff_ne, ne_eq] at d1 d2 d3 d4 d5 d6
      simp [Num.stepN, hd, d1, d2, d3, d4, d5, d6]
    clear hr
    go_enter Try.func39, Try.ntmps39
    go_wp2
    go_ret
    exact ⟨rfl, rfl⟩

set_option maxHeartbeats 1000000 in
theorem step_5 (c r : Int) (w : World) (hr : Num.stepN 5 c = r) :
    Calls Try.prog 39 #[.int .i64 5, .int .u8 c] w fun e w' => e = .returned (.int .i64 r) ∧ w' = w := by
  rcases classes c with rfl | rfl | rfl | rfl | rfl | rfl | ⟨d1, d2, d3, d4, d5, d6, h1, h2⟩ | ⟨d1, d2, d3, d4, d5, d6, h1⟩ | ⟨d1, d2, d3, d4, d5, d6, h1⟩
  iterate 6
    · subst hr
      go_enter Try.func39, Try.ntmps39
      go_wp2
      go_ret
      exact ⟨rfl, rfl⟩
  · obtain rfl : r = 5 := by
      rw [← hr]
      have hd : Num.digB c = true := decide_eq_true (by omega)
      simp only [beq_eq_false_iff_ne, ne_eq] at d1 d2 d3 d4 d5 d6
      simp [Num.stepN, hd, d1, d2, d3, d4, d5, d6]
    clear hr
    go_enter Try.func39, Try.ntmps39
    go_wp2
    go_ret
    exact ⟨rfl, rfl⟩
  · obtain rfl : r = -1 := by
      rw [← hr]
      have hd : Num.digB c = false := decide_eq_false (by omega)
      simp only [beq_eq_false_iff_ne, ne_eq] at d1 d2 d3 d4 d5 d6
      simp [Num.stepN, hd, d1, d2, d3, d4, d5, d6]
    clear hr
    go_enter Try.func39, Try.ntmps39
    go_wp2
    go_ret
    exact ⟨rfl, rfl⟩
  · obtain rfl : r = -1 := by
      rw [← hr]
      have hd : Num.digB c = false := decide_eq_false (by omega)
      simp only [beq_eq_false_iff_ne, ne_eq] at d1 d2 d3 d4 d5 d6
      simp [Num.stepN, hd, d1, d2, d3, d4, d5, d6]
    clear hr
    go_enter Try.func39, Try.ntmps39
    go_wp2
    go_ret
    exact ⟨rfl, rfl⟩

set_option maxHeartbeats 1000000 in
theorem step_6 (c r : Int) (w : World) (hr : Num.stepN 6 c = r) :
    Calls Try.prog 39 #[.int .i64 6, .int .u8 c] w fun e w' => e = .returned (.int .i64 r) ∧ w' = w := by
  rcases classes c with rfl | rfl | rfl | rfl | rfl | rfl | ⟨d1, d2, d3, d4, d5, d6, h1, h2⟩ | ⟨d1, d2, d3, d4, d5, d6, h1⟩ | ⟨d1, d2, d3, d4, d5, d6, h1⟩
  iterate 6
    · subst hr
      go_enter Try.func39, Try.ntmps39
      go_wp2
      go_ret
      exact ⟨rfl, rfl⟩
  · obtain rfl : r = 8 := by
      rw [← hr]
      have hd : Num.digB c = true := decide_eq_true (by omega)
      simp only [beq_eq_false_iff_ne, ne_eq] at d1 d2 d3 d4 d5 d6
      simp [Num.stepN, hd, d1, d2, d3, d4, d5, d6]
    clear hr
    go_enter Try.func39, Try.ntmps39
    go_wp2
    go_ret
    exact ⟨rfl, rfl⟩
  · obtain rfl : r = -1 := by
      rw [← hr]
      have hd : Num.digB c = false := decide_eq_false (by omega)
      simp only [beq_eq_false_iff_ne, ne_eq] at d1 d2 d3 d4 d5 d6
      simp [Num.stepN, hd, d1, d2, d3, d4, d5, d6]
    clear hr
    go_enter Try.func39, Try.ntmps39
    go_wp2
    go_ret
    exact ⟨rfl, rfl⟩
  · obtain rfl : r = -1 := by
      rw [← hr]
      have hd : Num.digB c = false := decide_eq_false (by omega)
      simp only [beq_eq_false_iff_ne, ne_eq] at d1 d2 d3 d4 d5 d6
      simp [Num.stepN, hd, d1, d2, d3, d4, d5, d6]
    clear hr
    go_enter Try.func39, Try.ntmps39
    go_wp2
    go_ret
    exact ⟨rfl, rfl⟩

set_option maxHeartbeats 1000000 in
theorem step_7 (c r : Int) (w : World) (hr : Num.stepN 7 c = r) :
    Calls Try.prog 39 #[.int .i64 7, .int .u8 c] w fun e w' => e = .returned (.int .i64 r) ∧ w' = w := by
  rcases classes c with rfl | rfl | rfl | rfl | rfl | rfl | ⟨d1, d2, d3, d4, d5, d6, h1, h2⟩ | ⟨d1, d2, d3, d4, d5, d6, h1⟩ | ⟨d1, d2, d3, d4, d5, d6, h1⟩
  iterate 6
    · subst hr
      go_enter Try.func39, Try.ntmps39
      go_wp2
      go_ret
      exact ⟨rfl, rfl⟩
  · obtain rfl : r = 8 := by
      rw [← hr]
      have hd : Num.digB c = true := decide_eq_true (by omega)
      simp only [beq_eq_false_iff_ne, ne_eq] at d1 d2 d3 d4 d5 d6
      simp [Num.stepN, hd, d1, d2, d3, d4, d5, d6]
    clear hr
    go_enter Try.func39, Try.ntmps39
    go_wp2
    go_ret
    exact ⟨rfl, rfl⟩
  · obtain rfl : r = -1 := by
      rw [← hr]
      have hd : Num.digB c = false := decide_eq_false (by omega)
      simp only [beq_eq_false_iff_ne, ne_eq] at d1 d2 d3 d4 d5 d6
      simp [Num.stepN, hd, d1, d2, d3, d4, d5, d6]
    clear hr
    go_enter Try.func39, Try.ntmps39
    go_wp2
    go_ret
    exact ⟨rfl, rfl⟩
  · obtain rfl : r = -1 := by
      rw [← hr]
      have hd : Num.digB c = false := decide_eq_false (by omega)
      simp only [beq_eq_false_iff_ne, ne_eq] at d1 d2 d3 d4 d5 d6
      simp [Num.stepN, hd, d1, d2, d3, d4, d5, d6]
    clear hr
    go_enter Try.func39, Try.ntmps39
    go_wp2
    go_ret
    exact ⟨rfl, rfl⟩

set_option maxHeartbeats 1000000 in
theorem step_8 (c r : Int) (w : World) (hr : Num.stepN 8 c = r) :
    Calls Try.prog 39 #[.int .i64 8, .int .u8 c] w fun e w' => e = .returned (.int .i64 r) ∧ w' = w := by
  rcases classes c with rfl | rfl | rfl | rfl | rfl | rfl | ⟨d1, d2, d3, d4, d5, d6, h1, h2⟩ | ⟨d1, d2, d3, d4, d5, d6, h1⟩ | ⟨d1, d2, d3, d4, d5, d6, h1⟩
  iterate 6
    · subst hr
      go_enter Try.func39, Try.ntmps39
      go_wp2
      go_ret
      exact ⟨rfl, rfl⟩
  · obtain rfl : r = 8 := by
      rw [← hr]
      have hd : Num.digB c = true := decide_eq_true (by omega)
      simp only [beq_eq_false_iff_ne, ne_eq] at d1 d2 d3 d4 d5 d6
      simp [Num.stepN, hd, d1, d2, d3, d4, d5, d6]
    clear hr
    go_enter Try.func39, Try.ntmps39
    go_wp2
    go_ret
    exact ⟨rfl, rfl⟩
  · obtain rfl : r = -1 := by
      rw [← hr]
      have hd : Num.digB c = false := decide_eq_false (by omega)
      simp only [beq_eq_false_iff_ne, ne_eq] at d1 d2 d3 d4 d5 d6
      simp [Num.stepN, hd, d1, d2, d3, d4, d5, d6]
    clear hr
    go_enter Try.func39, Try.ntmps39
    go_wp2
    go_ret
    exact ⟨rfl, rfl⟩
  · obtain rfl : r = -1 := by
      rw [← hr]
      have hd : Num.digB c = false := decide_eq_false (by omega)
      simp only [beq_eq_false_iff_ne, ne_eq] at d1 d2 d3 d4 d5 d6
      simp [Num.stepN, hd, d1, d2, d3, d4, d5, d6]
    clear hr
    go_enter Try.func39, Try.ntmps39
    go_wp2
    go_ret
    exact ⟨rfl, rfl⟩

theorem jsonNumberStep_any (st : Nat) (c r : Int) (w : World) (h : st ≤ 8) (hr : Num.stepN st c = r) :
    Calls Try.prog 39 #[.int .i64 st, .int .u8 c] w fun e w' => e = .returned (.int .i64 r) ∧ w' = w := by
  rcases (show st = 0 ∨ st = 1 ∨ st = 2 ∨ st = 3 ∨ st = 4 ∨ st = 5 ∨ st = 6 ∨ st = 7 ∨ st = 8 by omega) with rfl | rfl | rfl | rfl | rfl | rfl | rfl | rfl | rfl
  · exact step_0 c r w hr
  · exact step_1 c r w hr
  · exact step_2 c r w hr
  · exact step_3 c r w hr
  · exact step_4 c r w hr
  · exact step_5 c r w hr
  · exact step_6 c r w hr
  · exact step_7 c r w hr
  · exact step_8 c r w hr

set_option maxHeartbeats 800000 in
theorem jsonNumberAutomaton_any (g : Nat → Int) (n E : Nat) (K : Bool) (b off cap i : Nat) (w : World) (hn : n ≤ 1048576) (hi : i < n) (hrow : Row .u8 w b off n g) (hR : Num.autoN g n i 0 = (E, K)) :
    Calls Try.prog 23 #[.slice (some ⟨b, off, none⟩) n cap, .int .i64 i] w fun e w' => e = .returned (.tuple #[.int .i64 E, .bool K]) ∧ w' = w := by
  have HR : Hid _ := hR
  clear hR
  go_enter Try.func23, Try.ntmps23
  go_wp2
  go_loop [6, 7] (fun s t => ∃ st p : Nat, st ≤ 8 ∧ p ≤ n ∧ s = .int .i64 st ∧ t = .int .i64 p ∧ Hid (Num.autoN g n p st = (E, K)))
    (fun _ t => n - (intOf t).toNat)
  case atStart => exact ⟨0, i, by omega, by omega, rfl, rfl, HR⟩
  case round =>
    clear HR
    obtain ⟨st, p, hst, hp, rfl, rfl, H⟩ := hrel
    by_cases h0 : p < n
    · have hc := hrow p h0
      have hb := Num.stepN_le st (g p)
      obtain ⟨r, hr⟩ : ∃ r, Num.stepN st (g p) = r := ⟨_, rfl⟩
      rw [hr] at hb
      have HRR : Hid _ := hr
      by_cases h1 : r < 0
      · obtain rfl : r = -1 := by omega
        have H2 := H.out
        rw [Num.auto_stop h0 hr] at H2
        obtain ⟨rfl, rfl⟩ := by simpa using H2
        clear H H2 hr
        go_wp2_with (first | (go_at_call 39; refine (jsonNumberStep_any st (g p) (-1) _ hst HRR.out).mono ?_; rintro e w' ⟨rfl, rfl⟩) | (go_at_call 40; refine (jsonNumberAccepts_any st _ hst).mono ?_; rintro e w' ⟨rfl, rfl⟩))
        go_ret2
        exact ⟨rfl, rfl⟩
      · obtain ⟨st', rfl⟩ := Int.eq_ofNat_of_zero_le (show 0 ≤ r by omega)
        have H2 := H.out
        rw [Num.auto_go h0 hr] at H2
        have H3 : Hid _ := H2
        clear H H2 hr
        go_wp2_with (go_at_call 39; refine (jsonNumberStep_any st (g p) st' _ hst HRR.out).mono ?_; rintro e w' ⟨rfl, rfl⟩)
        go_round
        case rel => exact ⟨st', p + 1, by omega, by omega, rfl, by go_num, H3⟩
        case measure => simp [intOf]; omega
    · obtain rfl : p = n := by omega
      have H2 := H.out
      rw [Num.auto_end (Nat.le_refl _)] at H2
      obtain ⟨rfl, rfl⟩ := by simpa using H2
      clear H H2
      go_wp2_with (go_at_call 40; refine (jsonNumberAccepts_any st _ hst).mono ?_; rintro e w' ⟨rfl, rfl⟩)
      go_ret2
      exact ⟨rfl, rfl⟩
end Go.Proofs.Qxb6602995a
