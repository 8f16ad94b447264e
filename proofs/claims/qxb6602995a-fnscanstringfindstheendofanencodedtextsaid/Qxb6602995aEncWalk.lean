/- The walks of encodeJSONText, textNeedsEscape, hexDigitOf. -/
import Derived.Test.Qxb6602995aBuf
import Derived.Test.Qxb6602995aEnc
namespace Go.Proofs.Qxb6602995a
open Go.RowKit

theorem hexDigitOf_any (v : Int) (up : Bool) (w : World) (h0 : 0 ≤ v) (h1 : v ≤ 15) :
    Calls Try.prog 37 #[.int .u8 v, .bool up] w fun e w' => e = .returned (.int .u8 (Scan.hexd v up)) ∧ w' = w := by
  by_cases h : v < 10
  · rw [show Scan.hexd v up = 48 + v by simp [Scan.hexd, h]]
    go_enter Try.func37, Try.ntmps37
    go_wp2
    go_ret
    exact ⟨rfl, rfl⟩
  · cases up with
    | true =>
      rw [show Scan.hexd v true = 65 + v - 10 by simp [Scan.hexd, h]]
      go_enter Try.func37, Try.ntmps37
      go_wp2
      go_ret
      exact ⟨rfl, rfl⟩
    | false =>
      rw [show Scan.hexd v false = 97 + v - 10 by simp [Scan.hexd, h]]
      go_enter Try.func37, Try.ntmps37
      go_wp2
      go_ret
      exact ⟨rfl, rfl⟩

theorem needL_append : ∀ (a b : List Int), Scan.needL (a ++ b) = (Scan.needL a || Scan.needL b) := by
  intro a
  induction a with
  | nil => intro b; simp [Scan.needL]
  | cons c r ih => intro b; simp [Scan.needL, ih, Bool.or_assoc]

theorem needL_of_take (s : ByteArray) (k : Nat) (h : Scan.needL ((sbytes s).take k) = true) : Scan.needL (sbytes s) = true := by
  rw [← List.take_append_drop k (sbytes s), needL_append, h]
  rfl

theorem odd_eq (k : Nat) : ((k : Int) % 2 == 1) = decide (k % 2 = 1) := by
  rw [Bool.eq_iff_iff]
  simp
  omega

set_option maxHeartbeats 1600000 in
theorem textNeedsEscape_any (s : ByteArray) (b : Bool) (w : World) (hs : s.size ≤ 1048576) (hb : Scan.needL (sbytes s) = b) :
    Calls Try.prog 19 #[.string s] w fun e w' => e = .returned (.bool b) ∧ w' = w := by
  have HBB : Hid _ := hb
  clear hb
  go_enter Try.func19, Try.ntmps19
  go_wp2
  go_loop [3] (fun i => ∃ k : Nat, k ≤ s.size ∧ i = .int .i64 k ∧ Hid (Scan.needL ((sbytes s).take k) = false)) (fun i => s.size - (intOf i).toNat)
  case atStart => exact ⟨0, Nat.zero_le _, rfl, rfl⟩
  case round =>
    obtain ⟨k, hk, rfl, H⟩ := hrel
    by_cases hlt : k < s.size
    · have hts := sbytes_take s k hlt
      have hsn := Scan.needL_snoc ((sbytes s).take k) (s[k].toNat : Int)
      rw [← hts, H.out, Bool.false_or] at hsn
      have d1 : Scan.needB (s[k].toNat : Int) = true ∨ Scan.needB (s[k].toNat : Int) = false := by cases Scan.needB (s[k].toNat : Int) <;> simp
      rcases d1 with d1 | d1
      · have hL : Scan.needL (sbytes s) = true := needL_of_take s (k + 1) (by rw [hsn, d1])
        obtain rfl : b = true := HBB.out.symm.trans hL
        have d2 : (s[k].toNat : Int) = 34 ∨ (s[k].toNat : Int) = 92 ∨ (s[k].toNat : Int) = 47 ∨ (s[k].toNat : Int) < 32 := of_decide_eq_true d1
        clear hL hsn hts d1 H HBB
        by_cases c0 : (s[k].toNat : Int) = 34
        · have e0 : ((s[k].toNat : Int) == 34) = true := beq_iff_eq.2 c0
          clear c0 d2
          go_wp2
          go_ret
          exact ⟨rfl, rfl⟩
        have e0 : ((s[k].toNat : Int) == 34) = false := beq_eq_false_iff_ne.2 c0
        by_cases c1 : (s[k].toNat : Int) = 92
        · have e1 : ((s[k].toNat : Int) == 92) = true := beq_iff_eq.2 c1
          clear c0 c1 d2
          go_wp2
          go_ret
          exact ⟨rfl, rfl⟩
        have e1 : ((s[k].toNat : Int) == 92) = false := beq_eq_false_iff_ne.2 c1
        by_cases c2 : (s[k].toNat : Int) = 47
        · have e2 : ((s[k].toNat : Int) == 47) = true := beq_iff_eq.2 c2
          clear c0 c1 c2 d2
          go_wp2
          go_ret
          exact ⟨rfl, rfl⟩
        have e2 : ((s[k].toNat : Int) == 47) = false := beq_eq_false_iff_ne.2 c2
        have c3 : (s[k].toNat : Int) < 32 := by omega
        clear c0 c1 c2 d2
        go_wp2
        go_ret
        exact ⟨rfl, rfl⟩
      · have HN : Hid (Scan.needL ((sbytes s).take (k + 1)) = false) := by rw [hsn, d1]; rfl
        have d2 : ¬ ((s[k].toNat : Int) = 34 ∨ (s[k].toNat : Int) = 92 ∨ (s[k].toNat : Int) = 47 ∨ (s[k].toNat : Int) < 32) := of_decide_eq_false d1
        have e0 : ((s[k].toNat : Int) == 34) = false := beq_eq_false_iff_ne.2 (by omega)
        have e1 : ((s[k].toNat : Int) == 92) = false := beq_eq_false_iff_ne.2 (by omega)
        have e2 : ((s[k].toNat : Int) == 47) = false := beq_eq_false_iff_ne.2 (by omega)
        have e3 : 32 ≤ (s[k].toNat : Int) := by omega
        clear hsn hts d1 d2 H
        go_wp2
        go_round
        case rel => exact ⟨k + 1, by omega, by go_num, HN⟩
        case measure => simp [intOf]; omega
    · obtain rfl : k = s.size := by omega
      have e : (sbytes s).take s.size = sbytes s := List.take_of_length_le (by rw [sbytes_length]; exact Nat.le_refl _)
      have H2 := H.out
      rw [e] at H2
      obtain rfl : b = false := HBB.out.symm.trans H2
      clear H H2 e HBB
      go_wp2
      go_ret
      exact ⟨rfl, rfl⟩

set_option maxHeartbeats 1600000 in
set_option maxRecDepth 100000 in
theorem encode_any (s : ByteArray) (w : World) (hs : s.size ≤ 1048576) :
    Calls Try.prog 18 #[.string s] w fun e w' => ∃ v, e = .returned v ∧ Buf w' w.heap.size v (Scan.encL 0 (sbytes s)) ∧ Below w.heap.size w w' := by
  go_enter Try.func18, Try.ntmps18
  go_wp2_with (at_make; refine wpList_mk _ rfl _ _ rfl _ _ _ (6 * s.size) rfl rfl (by simp) (by omega) ?_)
  intro v0 w0 hB0 hb0
  go_wp2
  go_loopw [3, 4] (fun v i wr => ∃ k : Nat, k ≤ s.size ∧ i = .int .i64 k ∧ Buf wr w.heap.size v (Scan.encL 0 ((sbytes s).take k)) ∧ Below w.heap.size w wr)
    (fun _ i _ => s.size - (intOf i).toNat)
  case atStart => exact ⟨0, Nat.zero_le _, rfl, hB0, hb0⟩
  case round =>
    clear hB0 hb0
    obtain ⟨k, hk, rfl, hB, hb⟩ := hrel
    have hel := Scan.encL_len ((sbytes s).take k) 0
    have hlen : ((sbytes s).take k).length ≤ 1048576 := by rw [List.length_take, sbytes_length]; omega
    have hbase := hb.size
    by_cases hlt : k < s.size
    · have hts := sbytes_take s k hlt
      have hsn := Scan.encL_snoc ((sbytes s).take k) 0 (s[k].toNat : Int)
      rw [← hts, Nat.zero_add, List.length_take, sbytes_length, Nat.min_eq_left hk] at hsn
      clear hts
      by_cases c0 : (s[k].toNat : Int) = 34
      · have HN : Hid (Scan.encL 0 ((sbytes s).take (k + 1)) = Scan.encL 0 ((sbytes s).take k) ++ [92, 34]) := by
          rw [hsn, show Scan.encB k (s[k].toNat : Int) = [92, 34] by rw [c0]; rfl]
          rfl
        have d0 : ((s[k].toNat : Int) == 34) = true := beq_iff_eq.2 c0
        clear c0 hsn
        go_wp2_with (at_builtin; refine wpList_app _ rfl _ _ rfl w.heap.size _ _ rfl hB [92, 34] 2 2 rfl rfl (by omega) (by omega) ?_)
        intro v1 w1 hB1 hb1
        go_wp2
        go_roundw
        case rel => exact ⟨k + 1, by omega, by go_num, by rw [HN.out]; exact hB1, hb.trans hb1⟩
        case measure => simp [intOf]; omega
      have d0 : ((s[k].toNat : Int) == 34) = false := beq_eq_false_iff_ne.2 c0
      by_cases c1 : (s[k].toNat : Int) = 92
      · have HN : Hid (Scan.encL 0 ((sbytes s).take (k + 1)) = Scan.encL 0 ((sbytes s).take k) ++ [92, 92]) := by
          rw [hsn, show Scan.encB k (s[k].toNat : Int) = [92, 92] by rw [c1]; rfl]
          rfl
        have d1 : ((s[k].toNat : Int) == 92) = true := beq_iff_eq.2 c1
        clear c1 hsn
        go_wp2_with (at_builtin; refine wpList_app _ rfl _ _ rfl w.heap.size _ _ rfl hB [92, 92] 2 2 rfl rfl (by omega) (by omega) ?_)
        intro v1 w1 hB1 hb1
        go_wp2
        go_roundw
        case rel => exact ⟨k + 1, by omega, by go_num, by rw [HN.out]; exact hB1, hb.trans hb1⟩
        case measure => simp [intOf]; omega
      have d1 : ((s[k].toNat : Int) == 92) = false := beq_eq_false_iff_ne.2 c1
      by_cases c2 : (s[k].toNat : Int) = 47
      · have HN : Hid (Scan.encL 0 ((sbytes s).take (k + 1)) = Scan.encL 0 ((sbytes s).take k) ++ [92, 47]) := by
          rw [hsn, show Scan.encB k (s[k].toNat : Int) = [92, 47] by rw [c2]; rfl]
          rfl
        have d2 : ((s[k].toNat : Int) == 47) = true := beq_iff_eq.2 c2
        clear c2 hsn
        go_wp2_with (at_builtin; refine wpList_app _ rfl _ _ rfl w.heap.size _ _ rfl hB [92, 47] 2 2 rfl rfl (by omega) (by omega) ?_)
        intro v1 w1 hB1 hb1
        go_wp2
        go_roundw
        case rel => exact ⟨k + 1, by omega, by go_num, by rw [HN.out]; exact hB1, hb.trans hb1⟩
        case measure => simp [intOf]; omega
      have d2 : ((s[k].toNat : Int) == 47) = false := beq_eq_false_iff_ne.2 c2
      by_cases c3 : (s[k].toNat : Int) = 10
      · have HN : Hid (Scan.encL 0 ((sbytes s).take (k + 1)) = Scan.encL 0 ((sbytes s).take k) ++ [92, 110]) := by
          rw [hsn, show Scan.encB k (s[k].toNat : Int) = [92, 110] by rw [c3]; rfl]
          rfl
        have d3 : ((s[k].toNat : Int) == 10) = true := beq_iff_eq.2 c3
        clear c3 hsn
        go_wp2_with (at_builtin; refine wpList_app _ rfl _ _ rfl w.heap.size _ _ rfl hB [92, 110] 2 2 rfl rfl (by omega) (by omega) ?_)
        intro v1 w1 hB1 hb1
        go_wp2
        go_roundw
        case rel => exact ⟨k + 1, by omega, by go_num, by rw [HN.out]; exact hB1, hb.trans hb1⟩
        case measure => simp [intOf]; omega
      have d3 : ((s[k].toNat : Int) == 10) = false := beq_eq_false_iff_ne.2 c3
      by_cases c4 : (s[k].toNat : Int) = 9
      · have HN : Hid (Scan.encL 0 ((sbytes s).take (k + 1)) = Scan.encL 0 ((sbytes s).take k) ++ [92, 116]) := by
          rw [hsn, show Scan.encB k (s[k].toNat : Int) = [92, 116] by rw [c4]; rfl]
          rfl
        have d4 : ((s[k].toNat : Int) == 9) = true := beq_iff_eq.2 c4
        clear c4 hsn
        go_wp2_with (at_builtin; refine wpList_app _ rfl _ _ rfl w.heap.size _ _ rfl hB [92, 116] 2 2 rfl rfl (by omega) (by omega) ?_)
        intro v1 w1 hB1 hb1
        go_wp2
        go_roundw
        case rel => exact ⟨k + 1, by omega, by go_num, by rw [HN.out]; exact hB1, hb.trans hb1⟩
        case measure => simp [intOf]; omega
      have d4 : ((s[k].toNat : Int) == 9) = false := beq_eq_false_iff_ne.2 c4
      by_cases c5 : (s[k].toNat : Int) = 8
      · have HN : Hid (Scan.encL 0 ((sbytes s).take (k + 1)) = Scan.encL 0 ((sbytes s).take k) ++ [92, 98]) := by
          rw [hsn, show Scan.encB k (s[k].toNat : Int) = [92, 98] by rw [c5]; rfl]
          rfl
        have d5 : ((s[k].toNat : Int) == 8) = true := beq_iff_eq.2 c5
        clear c5 hsn
        go_wp2_with (at_builtin; refine wpList_app _ rfl _ _ rfl w.heap.size _ _ rfl hB [92, 98] 2 2 rfl rfl (by omega) (by omega) ?_)
        intro v1 w1 hB1 hb1
        go_wp2
        go_roundw
        case rel => exact ⟨k + 1, by omega, by go_num, by rw [HN.out]; exact hB1, hb.trans hb1⟩
        case measure => simp [intOf]; omega
      have d5 : ((s[k].toNat : Int) == 8) = false := beq_eq_false_iff_ne.2 c5
      by_cases c6 : (s[k].toNat : Int) = 12
      · have HN : Hid (Scan.encL 0 ((sbytes s).take (k + 1)) = Scan.encL 0 ((sbytes s).take k) ++ [92, 102]) := by
          rw [hsn, show Scan.encB k (s[k].toNat : Int) = [92, 102] by rw [c6]; rfl]
          rfl
        have d6 : ((s[k].toNat : Int) == 12) = true := beq_iff_eq.2 c6
        clear c6 hsn
        go_wp2_with (at_builtin; refine wpList_app _ rfl _ _ rfl w.heap.size _ _ rfl hB [92, 102] 2 2 rfl rfl (by omega) (by omega) ?_)
        intro v1 w1 hB1 hb1
        go_wp2
        go_roundw
        case rel => exact ⟨k + 1, by omega, by go_num, by rw [HN.out]; exact hB1, hb.trans hb1⟩
        case measure => simp [intOf]; omega
      have d6 : ((s[k].toNat : Int) == 12) = false := beq_eq_false_iff_ne.2 c6
      by_cases c7 : (s[k].toNat : Int) = 13
      · have HN : Hid (Scan.encL 0 ((sbytes s).take (k + 1)) = Scan.encL 0 ((sbytes s).take k) ++ [92, 114]) := by
          rw [hsn, show Scan.encB k (s[k].toNat : Int) = [92, 114] by rw [c7]; rfl]
          rfl
        have d7 : ((s[k].toNat : Int) == 13) = true := beq_iff_eq.2 c7
        clear c7 hsn
        go_wp2_with (at_builtin; refine wpList_app _ rfl _ _ rfl w.heap.size _ _ rfl hB [92, 114] 2 2 rfl rfl (by omega) (by omega) ?_)
        intro v1 w1 hB1 hb1
        go_wp2
        go_roundw
        case rel => exact ⟨k + 1, by omega, by go_num, by rw [HN.out]; exact hB1, hb.trans hb1⟩
        case measure => simp [intOf]; omega
      have d7 : ((s[k].toNat : Int) == 13) = false := beq_eq_false_iff_ne.2 c7
      have hb8 := UInt8.toNat_lt s[k]
      by_cases c9 : (s[k].toNat : Int) < 32
      · have HN : Hid (Scan.encL 0 ((sbytes s).take (k + 1)) = Scan.encL 0 ((sbytes s).take k) ++ [92, 117, 48, 48, Scan.hexd ((s[k].toNat : Int) / 16) ((k : Int) % 2 == 1), Scan.hexd ((s[k].toNat : Int) % 16) ((k : Int) % 2 == 1)]) := by
          rw [hsn, odd_eq, show Scan.encB k (s[k].toNat : Int) = [92, 117, 48, 48, Scan.hexd ((s[k].toNat : Int) / 16) (decide (k % 2 = 1)), Scan.hexd ((s[k].toNat : Int) % 16) (decide (k % 2 = 1))] by
            unfold Scan.encB; rw [if_neg c0, if_neg c1, if_neg c2, if_neg c3, if_neg c4, if_neg c5, if_neg c6, if_neg c7, if_pos c9]]
          rfl
        clear c0 c1 c2 c3 c4 c5 c6 c7 hsn
        go_wp2_with fail
        refine (hexDigitOf_any _ _ _ (by omega) (by omega)).mono ?_
        rintro e w2 ⟨rfl, rfl⟩
        go_wp2_with fail
        refine (hexDigitOf_any _ _ _ (by omega) (by omega)).mono ?_
        rintro e w3 ⟨rfl, rfl⟩
        go_wp2_with (at_builtin; refine wpList_app _ rfl _ _ rfl w.heap.size _ _ rfl hB [92, 117, 48, 48, Scan.hexd ((s[k].toNat : Int) / 16) ((k : Int) % 2 == 1), Scan.hexd ((s[k].toNat : Int) % 16) ((k : Int) % 2 == 1)] 6 6 rfl rfl (by omega) (by omega) ?_)
        intro v1 w1 hB1 hb1
        go_wp2
        go_roundw
        case rel => exact ⟨k + 1, by omega, by go_num, by rw [HN.out]; exact hB1, hb.trans hb1⟩
        case measure => simp [intOf]; omega
      · have HN : Hid (Scan.encL 0 ((sbytes s).take (k + 1)) = Scan.encL 0 ((sbytes s).take k) ++ [(s[k].toNat : Int)]) := by
          rw [hsn, show Scan.encB k (s[k].toNat : Int) = [(s[k].toNat : Int)] by unfold Scan.encB; rw [if_neg c0, if_neg c1, if_neg c2, if_neg c3, if_neg c4, if_neg c5, if_neg c6, if_neg c7, if_neg c9]]
          rfl
        clear c0 c1 c2 c3 c4 c5 c6 c7 hsn
        go_wp2_with (at_builtin; refine wpList_app _ rfl _ _ rfl w.heap.size _ _ rfl hB [(s[k].toNat : Int)] 1 1 rfl rfl (by omega) (by omega) ?_)
        intro v1 w1 hB1 hb1
        go_wp2
        go_roundw
        case rel => exact ⟨k + 1, by omega, by go_num, by rw [HN.out]; exact hB1, hb.trans hb1⟩
        case measure => simp [intOf]; omega
    · obtain rfl : k = s.size := by omega
      have e : (sbytes s).take s.size = sbytes s := List.take_of_length_le (by rw [sbytes_length]; exact Nat.le_refl _)
      rw [e] at hB
      clear e hel hlen
      go_wp2
      go_ret
      exact ⟨_, rfl, hB, hb⟩
end Go.Proofs.Qxb6602995a
