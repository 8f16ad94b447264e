/- The walks of skipDigits and scanNumber. -/
import Derived.Test.Qxb6602995aBase
import Derived.Test.Qxb6602995aNum
import Derived.Deep.DeepCutAuto
import Derived.Deep.CutBlock
namespace Go.Proofs.Qxb6602995a
open Go.RowKit

theorem skipDigits_any (g : Nat → Int) (n b off cap : Nat) (a : Int) (i k : Nat) (w : World) (hn : n ≤ 1048576) (ha : a = i) (hi : i ≤ n) (hrow : Row .u8 w b off n g) (hk : Num.skipD g n n i = k) :
    Calls Try.prog 44 #[.slice (some ⟨b, off, none⟩) n cap, .int .i64 a] w fun e w' => e = .returned (.int .i64 k) ∧ w' = w := by
  subst ha
  have HR : Hid _ := hk
  clear hk
  go_enter Try.func44, Try.ntmps44
  go_wp2
  go_loop [1] (fun s => ∃ j F : Nat, j ≤ n ∧ n ≤ j + F ∧ s = .int .i64 j ∧ Hid (Num.skipD g n F j = k))
    (fun s => n - (intOf s).toNat)
  case atStart => exact ⟨i, n, hi, by omega, rfl, HR⟩
  case round =>
    clear HR
    obtain ⟨j, F, hj, hF, rfl, H⟩ := hrel
    by_cases h0 : n ≤ j
    · have H2 := H.out
      have e : j = k := by
        cases F with
        | zero => exact H2
        | succ F => rw [Num.skipD, if_neg (by omega)] at H2; exact H2
      subst e
      clear H H2
      go_wp2
      go_ret
      exact ⟨rfl, rfl⟩
    obtain ⟨F, rfl⟩ : ∃ f, F = f + 1 := ⟨F - 1, by omega⟩
    have hc0 := hrow j (by omega)
    have H2 := H.out
    rw [Num.skipD] at H2
    by_cases h1 : g j < 48
    · have hd : Num.digB (g j) = false := decide_eq_false (by omega)
      rw [if_neg (by rw [hd]; simp)] at H2
      subst H2
      clear H hd
      go_wp2
      go_ret
      exact ⟨rfl, rfl⟩
    by_cases h2 : 57 < g j
    · have hd : Num.digB (g j) = false := decide_eq_false (by omega)
      rw [if_neg (by rw [hd]; simp)] at H2
      subst H2
      clear H hd
      go_wp2
      go_ret
      exact ⟨rfl, rfl⟩
    rw [if_pos ⟨by omega, decide_eq_true (by omega)⟩] at H2
    have H3 : Hid _ := H2
    clear H H2
    go_wp2
    go_round
    case rel => exact ⟨j + 1, F, by omega, by omega, by go_num, H3⟩
    case measure => simp [intOf]; omega

theorem ret_tuple2 {a b : Int} {p q : Bool} (h : a = b) (h2 : p = q) : Ending.returned (.tuple #[.int .i64 a, .bool p]) = .returned (.tuple #[.int .i64 b, .bool q]) := by rw [h, h2]

/-- A point lies at place i. -/
def dotB (n i : Nat) (c : Int) : Bool := decide (i < n ∧ c = 46)

set_option maxHeartbeats 1600000 in
set_option maxRecDepth 100000 in
theorem scanNumber_any (g : Nat → Int) (n E : Nat) (K : Bool) (b off cap i : Nat) (w : World) (hn : n ≤ 1048576) (hi : i < n) (hrow : Row .u8 w b off n g) (hR : Num.scanN g n i = (E, K)) :
    Calls Try.prog 38 #[.slice (some ⟨b, off, none⟩) n cap, .int .i64 i] w fun e w' => e = .returned (.tuple #[.int .i64 E, .bool K]) ∧ w' = w := by
  have HR : Hid _ := hR
  clear hR
  have hc := hrow i hi
  go_enter Try.func38, Try.ntmps38
  go_upto_if 11 with fail
  go_cut [1] (fun s wx => ∃ i1 : Nat, i1 ≤ n ∧ s = .int .i64 i1 ∧ Hid (Num.intP g n i1 = (E, K)) ∧ w = wx)
  case first =>
    by_cases h : g i = 45
    · have e : (g i == 45) = true := beq_iff_eq.2 h
      have H2 := HR.out
      rw [Num.scanN, if_pos h] at H2
      have H3 : Hid _ := H2
      clear H2 h HR
      go_wp2
      go_meet
      case rel => exact ⟨i + 1, by omega, by go_num, H3, rfl⟩
    · have e : (g i == 45) = false := beq_eq_false_iff_ne.2 h
      have H2 := HR.out
      rw [Num.scanN, if_neg h] at H2
      have H3 : Hid _ := H2
      clear H2 h HR
      go_wp2
      go_meet
      case rel => exact ⟨i, by omega, rfl, H3, rfl⟩
  case rest =>
    obtain ⟨i1, hi1, rfl, H1, rfl⟩ := hcut
    clear HR hc
    go_upto_block 0 with fail
    go_cut [1] (fun s wx => ∃ i2 : Nat, i2 ≤ n ∧ s = .int .i64 i2 ∧ Hid (Num.fracP g n i2 = (E, K)) ∧ w = wx)
    case first =>
      have H2 := H1.out
      rw [Num.intP] at H2
      clear H1
      by_cases h0 : n ≤ i1
      · rw [if_neg (by omega), if_neg (by omega)] at H2
        obtain ⟨rfl, rfl⟩ := by simpa using H2
        clear H2
        go_wp2
        go_ret2
        exact ⟨rfl, rfl⟩
      have hc := hrow i1 (by omega)
      by_cases h1 : g i1 = 48
      · rw [if_pos ⟨by omega, h1⟩] at H2
        have H3 : Hid _ := H2
        have e : (g i1 == 48) = true := beq_iff_eq.2 h1
        clear H2 h1
        go_wp2
        go_meet
        case rel => exact ⟨i1 + 1, by omega, by go_num, H3, rfl⟩
      have e : (g i1 == 48) = false := beq_eq_false_iff_ne.2 h1
      rw [if_neg (fun h => h1 h.2)] at H2
      by_cases h2 : g i1 < 49
      · rw [if_neg (fun h => absurd h.2 (by rw [show Num.digB (g i1) = false from decide_eq_false (by omega)]; simp))] at H2
        obtain ⟨rfl, rfl⟩ := by simpa using H2
        clear H2 h1
        go_wp2
        go_ret2
        exact ⟨rfl, rfl⟩
      by_cases h3 : 57 < g i1
      · rw [if_neg (fun h => absurd h.2 (by rw [show Num.digB (g i1) = false from decide_eq_false (by omega)]; simp))] at H2
        obtain ⟨rfl, rfl⟩ := by simpa using H2
        clear H2 h1
        go_wp2
        go_ret2
        exact ⟨rfl, rfl⟩
      rw [if_pos ⟨by omega, decide_eq_true (by omega)⟩] at H2
      have hle := Num.skip_le g n n i1 hi1
      generalize hk : Num.skipD g n n i1 = k at *
      have Hk : Hid _ := hk
      have H3 : Hid _ := H2
      clear H2 h1 hk
      go_wp2_with (go_at_call 44; refine (skipDigits_any g n b off cap _ i1 k _ hn rfl hi1 hrow Hk.out).mono ?_; rintro e w' ⟨rfl, rfl⟩)
      go_meet
      case rel => exact ⟨k, hle, rfl, H3, rfl⟩
    case rest =>
      obtain ⟨i2, hi2, rfl, H2, rfl⟩ := hcut
      clear H1
      go_upto_region 8 with fail
      go_cut [61] (fun s wx => s = .bool (dotB n i2 (g i2)) ∧ w = wx)
      case first =>
        by_cases h0 : n ≤ i2
        · go_wp2
          go_meet
          case rel => exact ⟨congrArg Value.bool (show dotB n i2 (g i2) = false from decide_eq_false (by omega)).symm, rfl⟩
        have hc := hrow i2 (by omega)
        by_cases h1 : g i2 = 46
        · have e : (g i2 == 46) = true := beq_iff_eq.2 h1
          have q : Hid (dotB n i2 (g i2) = true) := decide_eq_true ⟨by omega, h1⟩
          clear h1
          go_wp2
          go_meet
          case rel => exact ⟨congrArg Value.bool q.out.symm, rfl⟩
        · have e : (g i2 == 46) = false := beq_eq_false_iff_ne.2 h1
          have q : Hid (dotB n i2 (g i2) = false) := decide_eq_false (fun h => h1 h.2)
          clear h1
          go_wp2
          go_meet
          case rel => exact ⟨congrArg Value.bool q.out.symm, rfl⟩
      case rest =>
        obtain ⟨rfl, rfl⟩ := hcut
        go_upto_if 61 with fail
        go_cut [1] (fun s wx => ∃ i3 : Nat, i3 ≤ n ∧ s = .int .i64 i3 ∧ Hid (Num.expP g n i3 = (E, K)) ∧ w = wx)
        case first =>
          have H3 := H2.out
          rw [Num.fracP] at H3
          clear H2
          by_cases hd : i2 < n ∧ g i2 = 46
          · have q : dotB n i2 (g i2) = true := decide_eq_true hd
            rw [q]
            clear q
            rw [if_pos hd] at H3
            obtain ⟨hd1, hd2⟩ := hd
            have hge := Num.skip_ge g n n (i2 + 1)
            have hle := Num.skip_le g n n (i2 + 1) (by omega)
            have hdg := Num.skip_digits g n n (i2 + 1)
            generalize hk : Num.skipD g n n (i2 + 1) = k at *
            have Hk : Hid _ := hk
            clear hk
            by_cases h1 : k = i2 + 1
            · rw [if_pos h1] at H3
              obtain ⟨rfl, rfl⟩ := by simpa using H3
              subst h1
              have hc := hrow i2 (by omega)
              rw [hd2] at hc
              clear H3 hd2 hdg
              go_wp2_with (go_at_call 44; refine (skipDigits_any g n b off cap _ (i2 + 1) (i2 + 1) _ hn (by omega) (by omega) hrow Hk.out).mono ?_; rintro e w' ⟨rfl, rfl⟩)
              go_ret2
              exact ⟨rfl, rfl⟩
            · rw [if_neg h1] at H3
              have H4 : Hid _ := H3
              obtain ⟨k, rfl⟩ : ∃ k', k = k' + 1 := ⟨k - 1, by omega⟩
              have hc := hrow k (by omega)
              have hdk : Num.digB (g k) = true := hdg k (by omega) (by omega)
              have hdk2 : 48 ≤ g k ∧ g k ≤ 57 := of_decide_eq_true hdk
              have e : (g k == 46) = false := beq_eq_false_iff_ne.2 (by omega)
              clear H3 hd2 hdg hdk hdk2 h1
              go_wp2_with (go_at_call 44; refine (skipDigits_any g n b off cap _ (i2 + 1) (k + 1) _ hn (by omega) (by omega) hrow Hk.out).mono ?_; rintro e w' ⟨rfl, rfl⟩)
              go_meet
              case rel => exact ⟨k + 1, by omega, rfl, H4, rfl⟩
          · have q : dotB n i2 (g i2) = false := decide_eq_false hd
            rw [q]
            clear q
            rw [if_neg hd] at H3
            have H4 : Hid _ := H3
            clear H3 hd
            go_wp2
            go_meet
            case rel => exact ⟨i2, hi2, rfl, H4, rfl⟩
        case rest =>
          obtain ⟨i3, hi3, rfl, H3, rfl⟩ := hcut
          clear H2
          have H4 := H3.out
          rw [Num.expP] at H4
          clear H3
          by_cases h0 : n ≤ i3
          · rw [if_neg (by omega)] at H4
            obtain ⟨rfl, rfl⟩ := by simpa using H4
            clear H4
            go_wp2
            go_ret2
            exact ⟨rfl, rfl⟩
          have hc := hrow i3 (by omega)
          by_cases he : g i3 = 101 ∨ g i3 = 69
          · rw [if_pos ⟨by omega, he⟩] at H4
            by_cases hs : i3 + 1 < n ∧ (g (i3 + 1) = 43 ∨ g (i3 + 1) = 45)
            · simp only [if_pos hs] at H4
              have hc1 := hrow (i3 + 1) hs.1
              have hge := Num.skip_ge g n n (i3 + 2)
              have hle := Num.skip_le g n n (i3 + 2) (by omega)
              generalize hk : Num.skipD g n n (i3 + 2) = k at *
              have Hk : Hid _ := hk
              clear hk
              obtain ⟨hs0, hs1⟩ := hs
              generalize g i3 = c0 at *
              generalize g (i3 + 1) = c1 at *
              by_cases hj : i3 + 2 < k
              · rw [if_pos hj] at H4
                obtain ⟨rfl, rfl⟩ := by simpa using H4
                clear H4
                rcases he with rfl | rfl <;> rcases hs1 with rfl | rfl
                all_goals
                  go_wp2_with (go_at_call 44; refine (skipDigits_any g n b off cap _ (i3 + 2) k _ hn (by omega) (by omega) hrow Hk.out).mono ?_; rintro e w' ⟨rfl, rfl⟩)
                  go_ret2
                  exact ⟨rfl, rfl⟩
              · rw [if_neg hj] at H4
                obtain ⟨rfl, rfl⟩ := by simpa using H4
                obtain rfl : k = i3 + 2 := by omega
                clear H4
                rcases he with rfl | rfl <;> rcases hs1 with rfl | rfl
                all_goals
                  go_wp2_with (go_at_call 44; refine (skipDigits_any g n b off cap _ (i3 + 2) (i3 + 2) _ hn (by omega) (by omega) hrow Hk.out).mono ?_; rintro e w' ⟨rfl, rfl⟩)
                  go_ret2
                  exact ⟨ret_tuple2 (by omega) rfl, rfl⟩
            · simp only [if_neg hs] at H4
              have hge := Num.skip_ge g n n (i3 + 1)
              have hle := Num.skip_le g n n (i3 + 1) (by omega)
              generalize hk : Num.skipD g n n (i3 + 1) = k at *
              have Hk : Hid _ := hk
              clear hk
              by_cases hj : i3 + 1 < k
              · rw [if_pos hj] at H4
                obtain ⟨rfl, rfl⟩ := by simpa using H4
                clear H4
                by_cases hs0 : n ≤ i3 + 1
                · omega
                · have hc1 := hrow (i3 + 1) (by omega)
                  have q1 : (g (i3 + 1) == 43) = false := beq_eq_false_iff_ne.2 (fun h => hs ⟨by omega, .inl h⟩)
                  have q2 : (g (i3 + 1) == 45) = false := beq_eq_false_iff_ne.2 (fun h => hs ⟨by omega, .inr h⟩)
                  generalize g i3 = c0 at *
                  clear hs
                  rcases he with rfl | rfl
                  all_goals
                    go_wp2_with (go_at_call 44; refine (skipDigits_any g n b off cap _ (i3 + 1) k _ hn (by omega) (by omega) hrow Hk.out).mono ?_; rintro e w' ⟨rfl, rfl⟩)
                    go_ret2
                    exact ⟨rfl, rfl⟩
              · rw [if_neg hj] at H4
                obtain ⟨rfl, rfl⟩ := by simpa using H4
                obtain rfl : k = i3 + 1 := by omega
                clear H4
                by_cases hs0 : n ≤ i3 + 1
                · generalize g i3 = c0 at *
                  clear hs
                  rcases he with rfl | rfl
                  all_goals
                    go_wp2_with (go_at_call 44; refine (skipDigits_any g n b off cap _ (i3 + 1) (i3 + 1) _ hn (by omega) (by omega) hrow Hk.out).mono ?_; rintro e w' ⟨rfl, rfl⟩)
                    go_ret2
                    exact ⟨ret_tuple2 (by omega) rfl, rfl⟩
                · have hc1 := hrow (i3 + 1) (by omega)
                  have q1 : (g (i3 + 1) == 43) = false := beq_eq_false_iff_ne.2 (fun h => hs ⟨by omega, .inl h⟩)
                  have q2 : (g (i3 + 1) == 45) = false := beq_eq_false_iff_ne.2 (fun h => hs ⟨by omega, .inr h⟩)
                  generalize g i3 = c0 at *
                  clear hs
                  rcases he with rfl | rfl
                  all_goals
                    go_wp2_with (go_at_call 44; refine (skipDigits_any g n b off cap _ (i3 + 1) (i3 + 1) _ hn (by omega) (by omega) hrow Hk.out).mono ?_; rintro e w' ⟨rfl, rfl⟩)
                    go_ret2
                    exact ⟨ret_tuple2 (by omega) rfl, rfl⟩
          · rw [if_neg (fun h => he h.2)] at H4
            obtain ⟨rfl, rfl⟩ := by simpa using H4
            have q1 : (g i3 == 101) = false := beq_eq_false_iff_ne.2 (fun h => he (.inl h))
            have q2 : (g i3 == 69) = false := beq_eq_false_iff_ne.2 (fun h => he (.inr h))
            clear H4 he
            go_wp2
            go_ret2
            exact ⟨rfl, rfl⟩
end Go.Proofs.Qxb6602995a
