/- The walks of scanString, isHexDigit and copyBytes. -/
import Derived.Test.Qxb6602995aBase
import Derived.Test.Qxb6602995aScan
namespace Go.Proofs.Qxb6602995a
open Go.RowKit

theorem ret_bool {a b : Bool} (h : a = b) : Ending.returned (.bool a) = .returned (.bool b) := by rw [h]

theorem isHexDigit_any (c : Int) (w : World) : Calls Try.prog 43 #[.int .u8 c] w fun e w' => e = .returned (.bool (Scan.hexB c)) ∧ w' = w := by
  rcases (show (c < 48) ∨ (48 ≤ c ∧ c ≤ 57) ∨ (57 < c ∧ c < 65) ∨ (65 ≤ c ∧ c ≤ 70) ∨ (70 < c ∧ c < 97) ∨ (97 ≤ c ∧ c ≤ 102) ∨ (102 < c) by omega) with h | ⟨h, h'⟩ | ⟨h, h'⟩ | ⟨h, h'⟩ | ⟨h, h'⟩ | ⟨h, h'⟩ | h
  · rw [show Scan.hexB c = false from decide_eq_false (by omega)]
    go_enter Try.func43, Try.ntmps43
    go_wp2
    go_ret
    exact ⟨ret_bool (by first | rfl | (simp; omega)), rfl⟩
  · rw [show Scan.hexB c = true from decide_eq_true (by omega)]
    go_enter Try.func43, Try.ntmps43
    go_wp2
    go_ret
    exact ⟨ret_bool (by first | rfl | (simp; omega)), rfl⟩
  · rw [show Scan.hexB c = false from decide_eq_false (by omega)]
    go_enter Try.func43, Try.ntmps43
    go_wp2
    go_ret
    exact ⟨ret_bool (by first | rfl | (simp; omega)), rfl⟩
  · rw [show Scan.hexB c = true from decide_eq_true (by omega)]
    go_enter Try.func43, Try.ntmps43
    go_wp2
    go_ret
    exact ⟨ret_bool (by first | rfl | (simp; omega)), rfl⟩
  · rw [show Scan.hexB c = false from decide_eq_false (by omega)]
    go_enter Try.func43, Try.ntmps43
    go_wp2
    go_ret
    exact ⟨ret_bool (by first | rfl | (simp; omega)), rfl⟩
  · rw [show Scan.hexB c = true from decide_eq_true (by omega)]
    go_enter Try.func43, Try.ntmps43
    go_wp2
    go_ret
    exact ⟨ret_bool (by first | rfl | (simp; omega)), rfl⟩
  · rw [show Scan.hexB c = false from decide_eq_false (by omega)]
    go_enter Try.func43, Try.ntmps43
    go_wp2
    go_ret
    exact ⟨ret_bool (by first | rfl | (simp; omega)), rfl⟩

/-- A copy of n bytes, n > 0. -/
theorem copyBytes_any (b off n cap : Nat) (g : Nat → Int) (w : World) (hn : n ≤ 1048576) (h0 : 0 < n) (hrow : Row .u8 w b off n g) (hb : b < w.heap.size) :
    Calls Try.prog 13 #[.slice (some ⟨b, off, none⟩) n cap] w fun e w' => e = .returned (.slice (some ⟨w.heap.size, 0, none⟩) n n) ∧ Own .u8 w' w.heap.size n g ∧ Below w.heap.size w w' ∧ w.heap.size < w'.heap.size := by
  obtain ⟨i0, hi, hz0, hz1, hz2⟩ := info_parts Try.info5
  have hnil : ∀ w', (binOp .eql 22 (.slice (some ⟨b, off, none⟩) n cap) (.slice none 0 0)).run Try.prog w' = .ok (.bool false) w' := fun w' => Lib.run_eql_slice_nil w' 22 5 _ _ _ _ _ Try.underlying22
  go_enter Try.func13, Try.ntmps13
  go_wp2_with (at_make; refine wpList_make_full _ rfl _ _ 22 rfl w.heap.size 5 i0 (.int .u8 0) 1 Try.underlying22 hi hz0 hz1 _ _ _ _ n rfl rfl (by simp) (by simp) ?b2 ?b3 ?b4 ?_)
  case b2 => rw [hz2]; omega
  case b3 => unfold maxLen; omega
  case b4 => exact Nat.le_refl _
  intro w3 hown3 hgrow3
  have hO : Own .u8 w3 w.heap.size n (fun t => if t < 0 then g t else 0) := own_made hown3 _ (fun t ht => by rw [toList_madeCells_one]; simp [ht])
  have hB3 : Below w.heap.size w w3 := (Below.refl _ _).grown hgrow3 (Nat.le_refl _) (fun k h => by cases h)
  clear hown3 hgrow3 hnil
  go_wp2
  go_loopw [4] (fun i wr => ∃ k : Nat, k ≤ n ∧ i = .int .i64 k ∧ Own .u8 wr w.heap.size n (fun t => if t < k then g t else 0) ∧ Below w.heap.size w wr)
    (fun i _ => n - (intOf i).toNat)
  case atStart => exact ⟨0, Nat.zero_le _, rfl, hO, hB3⟩
  case round =>
    clear hO hB3
    obtain ⟨k, hk, rfl, hO, hB⟩ := hrel
    by_cases hlt : k < n
    · have hc := hO.cell k hlt
      have hf := hO.free k hlt
      have hx := hrow.below hB hb k hlt
      go_wp2
      go_roundw
      case rel => exact ⟨k + 1, by omega, by go_num, (hO.store k hlt (g k)).congr (fun t ht => by by_cases e : t = k <;> simp [e]; by_cases e2 : t < k <;> simp [e2] <;> omega), hB.setCell (Nat.le_refl _) _⟩
      case measure => simp [intOf]; omega
    · obtain rfl : k = n := by omega
      go_wp2
      go_ret
      exact ⟨rfl, hO.congr (fun t ht => by simp [ht]), hB, World.block_lt_of_cell? _ _ (hO.cell 0 h0)⟩

set_option maxHeartbeats 1600000 in
set_option maxRecDepth 100000 in
/-- 'scanString' answers what 'Scan.scanS' answers. -/
theorem scanString_any (g : Nat → Int) (n E : Nat) (B K : Bool) (b off cap i : Nat) (w : World) (hn : n ≤ 1048576) (hi : i < n) (hrow : Row .u8 w b off n g) (hR : Scan.scanS g n n (i + 1) false = (E, B, K)) :
    Calls Try.prog 34 #[.slice (some ⟨b, off, none⟩) n cap, .int .i64 i] w fun e w' => e = .returned (.tuple #[.int .i64 E, .bool B, .bool K]) ∧ w' = w := by
  have HR : Hid _ := hR
  clear hR
  go_enter Try.func34, Try.ntmps34
  go_wp2
  go_loop [7, 5] (fun s t => ∃ (j F : Nat) (esc : Bool), j ≤ n ∧ n ≤ j + F ∧ s = .int .i64 j ∧ t = .bool esc ∧ Hid (Scan.scanS g n F j esc = (E, B, K)))
    (fun s _ => n - (intOf s).toNat)
  case atStart => exact ⟨i + 1, n, false, by omega, by omega, by go_num, rfl, HR⟩
  case round =>
    clear HR
    obtain ⟨j, F, esc, hj, hF, rfl, rfl, H⟩ := hrel
    by_cases h0 : n ≤ j
    · have H2 := H.out
      rw [Scan.scan_end h0] at H2
      obtain ⟨rfl, rfl, rfl⟩ := by simpa using H2
      go_wp2
      go_ret3
      exact ⟨rfl, rfl⟩
    obtain ⟨F, rfl⟩ : ∃ f, F = f + 1 := ⟨F - 1, by omega⟩
    have hc0 := hrow j (by omega)
    by_cases h1 : g j = 34
    · have H2 := H.out
      rw [Scan.scan_quote h0 h1] at H2
      obtain ⟨rfl, rfl, rfl⟩ := by simpa using H2
      clear H H2
      go_wp2
      go_ret3
      exact ⟨rfl, rfl⟩
    by_cases h2 : g j < 32
    · have H2 := H.out
      rw [Scan.scan_control h0 h1 h2] at H2
      obtain ⟨rfl, rfl, rfl⟩ := by simpa using H2
      clear H H2
      go_wp2
      go_ret3
      exact ⟨rfl, rfl⟩
    by_cases h3 : g j = 92
    · have e3 : (g j == 92) = true := beq_iff_eq.2 h3
      have e1 : (g j == 34) = false := beq_eq_false_iff_ne.2 h1
      by_cases h4 : n ≤ j + 1
      · have H2 := H.out
        rw [Scan.scan_cut h0 h3 h4] at H2
        obtain ⟨rfl, rfl, rfl⟩ := by simpa using H2
        clear H H2 h3 h1
        go_wp2
        go_ret3
        exact ⟨rfl, rfl⟩
      have hc1 := hrow (j + 1) (by omega)
      by_cases h5 : Scan.shortB (g (j + 1)) = true
      · have H2 := H.out
        rw [Scan.scan_short h3 h4 h5] at H2
        have H3 : Hid _ := H2
        have h6 : g (j + 1) = 34 ∨ g (j + 1) = 92 ∨ g (j + 1) = 47 ∨ g (j + 1) = 98 ∨ g (j + 1) = 102 ∨ g (j + 1) = 110 ∨ g (j + 1) = 114 ∨ g (j + 1) = 116 := of_decide_eq_true h5
        clear H H2 h3 h1 h5
        generalize g (j + 1) = c at *
        rcases h6 with rfl | rfl | rfl | rfl | rfl | rfl | rfl | rfl
        all_goals
          go_wp2
          go_round
          case rel => exact ⟨j + 2, F, true, by omega, by omega, by go_num, rfl, H3⟩
          case measure => simp [intOf]; omega
      by_cases h6 : g (j + 1) = 117
      · cases h7 : Scan.hexBad g n 4 (j + 2) with
        | some k =>
          have H2 := H.out
          rw [Scan.scan_hex_bad h3 h4 h6 h7] at H2
          obtain ⟨rfl, rfl, rfl⟩ := by simpa using H2
          have H7 : Hid _ := h7
          clear H H2 h3 h1 h5 h7
          rw [h6] at hc1
          clear h6
          go_wp2
          go_loop [9, 5] (fun s t => ∃ c : Nat, c ≤ 4 ∧ s = .int .i64 (j + 2 + c : Nat) ∧ t = .bool true ∧ Hid (Scan.hexBad g n (4 - c) (j + 2 + c) = some k))
            (fun s _ => (j + 7 - (intOf s).toNat))
          case atStart => exact ⟨0, by omega, by go_num, rfl, H7⟩
          case round =>
            clear H7
            obtain ⟨c, hc, rfl, rfl, H⟩ := hrel
            by_cases h4c : c = 4
            · subst h4c
              have := H.out
              rw [Scan.hexBad] at this
              cases this
            obtain ⟨d, hd⟩ : ∃ d, 4 - c = d + 1 := ⟨3 - c, by omega⟩
            have H2 := H.out
            rw [hd, Scan.hexBad] at H2
            have hc3 : c ≤ 3 := by omega
            by_cases h8 : n ≤ j + 2 + c
            · rw [if_pos (.inl h8)] at H2
              obtain rfl : j + 2 + c = k := by simpa using H2
              clear H H2 hd h4c
              go_wp2_with (go_at_call 43; refine (isHexDigit_any _ _).mono ?_; rintro e w' ⟨rfl, rfl⟩)
              go_ret3
              exact ⟨rfl, rfl⟩
            have hcc := hrow (j + 2 + c) (by omega)
            cases h9 : Scan.hexB (g (j + 2 + c)) with
            | false =>
              rw [if_pos (.inr h9)] at H2
              obtain rfl : j + 2 + c = k := by simpa using H2
              clear H H2 hd h4c
              go_wp2_with (go_at_call 43; refine (isHexDigit_any _ _).mono ?_; rintro e w' ⟨rfl, rfl⟩)
              go_ret3
              exact ⟨rfl, rfl⟩
            | true =>
              rw [if_neg (by rw [h9]; simp; omega), show d = 4 - (c + 1) by omega] at H2
              have H3 : Hid _ := H2
              clear H H2 hd h4c
              go_wp2_with (go_at_call 43; refine (isHexDigit_any _ _).mono ?_; rintro e w' ⟨rfl, rfl⟩)
              go_round
              case rel => exact ⟨c + 1, by omega, by go_num, rfl, H3⟩
              case measure => simp [intOf]; omega
        | none =>
          have H2 := H.out
          rw [Scan.scan_hex_good h3 h4 h6 h7] at H2
          have H5 : Hid _ := H2
          have H7 : Hid _ := h7
          have hlen := (Scan.hexBad_none 4 (j + 2) h7 (by omega)).1
          clear H H2 h3 h1 h5 h7
          rw [h6] at hc1
          clear h6
          go_wp2
          go_loop [9, 5] (fun s t => ∃ c : Nat, c ≤ 4 ∧ s = .int .i64 (j + 2 + c : Nat) ∧ t = .bool true ∧ Hid (Scan.hexBad g n (4 - c) (j + 2 + c) = none))
            (fun s _ => (j + 7 - (intOf s).toNat))
          case atStart => exact ⟨0, by omega, by go_num, rfl, H7⟩
          case round =>
            clear H7
            obtain ⟨c, hc, rfl, rfl, H⟩ := hrel
            by_cases h4c : c = 4
            · subst h4c
              clear H
              go_wp2
              go_round
              case rel => exact ⟨j + 6, F, true, by omega, by omega, by go_num, rfl, H5⟩
              case measure => simp [intOf]; omega
            obtain ⟨d, hd⟩ : ∃ d, 4 - c = d + 1 := ⟨3 - c, by omega⟩
            have H2 := H.out
            rw [hd, Scan.hexBad] at H2
            have hc3 : c ≤ 3 := by omega
            by_cases h8 : n ≤ j + 2 + c
            · rw [if_pos (.inl h8)] at H2
              cases H2
            have hcc := hrow (j + 2 + c) (by omega)
            cases h9 : Scan.hexB (g (j + 2 + c)) with
            | false =>
              rw [if_pos (.inr h9)] at H2
              cases H2
            | true =>
              rw [if_neg (by rw [h9]; simp; omega), show d = 4 - (c + 1) by omega] at H2
              have H3 : Hid _ := H2
              clear H H2 hd h4c
              go_wp2_with (go_at_call 43; refine (isHexDigit_any _ _).mono ?_; rintro e w' ⟨rfl, rfl⟩)
              go_round
              case rel => exact ⟨c + 1, by omega, by go_num, rfl, H3⟩
              case measure => simp [intOf]; omega
      · have H2 := H.out
        rw [Scan.scan_other h3 h4 h5 h6] at H2
        obtain ⟨rfl, rfl, rfl⟩ := by simpa using H2
        have h5' : ¬ (g (j + 1) = 34 ∨ g (j + 1) = 92 ∨ g (j + 1) = 47 ∨ g (j + 1) = 98 ∨ g (j + 1) = 102 ∨ g (j + 1) = 110 ∨ g (j + 1) = 114 ∨ g (j + 1) = 116) := fun h => h5 (decide_eq_true h)
        generalize g (j + 1) = c at *
        have q1 : (c == 34) = false := beq_eq_false_iff_ne.2 (by omega)
        have q2 : (c == 92) = false := beq_eq_false_iff_ne.2 (by omega)
        have q3 : (c == 47) = false := beq_eq_false_iff_ne.2 (by omega)
        have q4 : (c == 98) = false := beq_eq_false_iff_ne.2 (by omega)
        have q5 : (c == 102) = false := beq_eq_false_iff_ne.2 (by omega)
        have q6 : (c == 110) = false := beq_eq_false_iff_ne.2 (by omega)
        have q7 : (c == 114) = false := beq_eq_false_iff_ne.2 (by omega)
        have q8 : (c == 116) = false := beq_eq_false_iff_ne.2 (by omega)
        have q9 : (c == 117) = false := beq_eq_false_iff_ne.2 (by omega)
        clear H H2 h3 h1 h5 h5' h6
        go_wp2
        go_ret3
        exact ⟨rfl, rfl⟩
    · have e1 : (g j == 34) = false := beq_eq_false_iff_ne.2 h1
      have e3 : (g j == 92) = false := beq_eq_false_iff_ne.2 h3
      have H2 := H.out
      rw [Scan.scan_plain h0 h1 h2 h3] at H2
      have H3 : Hid _ := H2
      clear H H2 h1 h3
      go_wp2
      go_round
      case rel => exact ⟨j + 1, F, esc, by omega, by omega, by go_num, rfl, H3⟩
      case measure => simp [intOf]; omega
end Go.Proofs.Qxb6602995a
