/- The walks of greatestMember and zzAllOnes. -/
import Derived.Test.Qxb6600799aParse
import Derived.Deep.LoopGhost
import Derived.Deep.DeepCutAuto
import Derived.Laws.Bits64b
namespace Go.Proofs.Qxb6600799a
open Go.RowKit

theorem or_one_nat (V : Nat) : (V * 2) ||| 1 = V * 2 + 1 := by
  have h : (V * 2) ||| 1 = (V <<< 1) ||| 1 := by rw [Nat.shiftLeft_eq]
  rw [h, ← Nat.shiftLeft_add_eq_or_of_lt (by omega : 1 < 2 ^ 1), Nat.shiftLeft_eq]

theorem or_one_u64 (V : Nat) (h : V < 9223372036854775808) : bits .or .u64 ((V : Int) * 2) 1 = ((V * 2 + 1 : Nat) : Int) := by
  have e : ((V : Int) * 2) = ((V * 2 : Nat) : Int) := by omega
  have e1 : (1 : Int) = ((1 : Nat) : Int) := rfl
  rw [e, e1, bits_or_u64_nat _ _ (by omega) (by omega), or_one_nat]

theorem pow_double (k V : Nat) (h : 2 ^ k - 1 = V) : 2 ^ (k + 1) - 1 = V * 2 + 1 := by
  have : 1 ≤ 2 ^ k := Nat.one_le_two_pow
  rw [Nat.pow_succ]
  omega

theorem allOnes_any (N : Nat) (w : World) (hN : N < 64) :
    Calls Try.prog 9 #[.int .u64 N] w fun e w' => e = .returned (.int .u64 ((2 ^ N - 1 : Nat) : Int)) ∧ w' = w := by
  go_enter Try.func9, Try.ntmps9
  go_wp2
  go_loop [3, 4] (fun v i => ∃ k : Nat, k ≤ N ∧ i = .int .u64 k ∧ v = .int .u64 ((2 ^ k - 1 : Nat) : Int)) (fun _ i => N - (intOf i).toNat)
  case atStart => exact ⟨0, by omega, rfl, rfl⟩
  case round =>
    obtain ⟨k, hk, rfl, rfl⟩ := hrel
    by_cases hlt : k < N
    · have h2 : 2 ^ k - 1 < 9223372036854775808 := by
        have : 2 ^ k ≤ 2 ^ 62 := Nat.pow_le_pow_right (by omega) (by omega)
        omega
      have hp := pow_double k _ rfl
      generalize hV : 2 ^ k - 1 = V at *
      have HV : Hid _ := hp
      have ho := or_one_u64 V h2
      clear hV hp
      go_wp2
      go_round
      case rel => exact ⟨k + 1, by omega, by go_num, by rw [HV.out]; go_num⟩
      case measure => simp [intOf]; omega
    · obtain rfl : k = N := by omega
      go_wp2
      go_ret
      exact ⟨rfl, rfl⟩

theorem ret_tup {a b : Int} {p q : Bool} (h : a = b) (h2 : p = q) : Ending.returned (.tuple #[.int .u64 a, .bool p]) = .returned (.tuple #[.int .u64 b, .bool q]) := by rw [h, h2]

theorem shl_val (k : Nat) (h : k + 1 < 64) : IntKind.u64.wrap (IntKind.u64.wrap (2 ^ (k + 1)) - 1) = ((2 ^ (k + 1) - 1 : Nat) : Int) := by
  have h1 : 1 ≤ 2 ^ (k + 1) := Nat.one_le_two_pow
  have h2 : 2 ^ (k + 1) ≤ 2 ^ 63 := Nat.pow_le_pow_right (by omega) (by omega)
  have e : (2 : Int) ^ (k + 1) = ((2 ^ (k + 1) : Nat) : Int) := by simp
  rw [e]
  generalize 2 ^ (k + 1) = P at *
  simp [IntKind.wrap, IntKind.bits, IntKind.signed]
  omega

/-- What greatestMember answers for N members. -/
def gm (isSet : Bool) (N : Nat) : Int × Bool :=
  if N = 0 then (0, false) else if isSet = false then (N, true) else if 64 ≤ N then (0, false) else (((2 ^ N - 1 : Nat) : Int), true)

/-- What follows a member's closing quote. -/
def behind (ms : List (List Int)) (t : List Int) : List Int := match ms with
  | [] => 41 :: t
  | _ => 44 :: (Mem.joinL ms ++ 41 :: t)

theorem join_cons (m : List Int) (ms : List (List Int)) (t : List Int) : Mem.joinL (m :: ms) ++ 41 :: t = 39 :: (Mem.dbl m ++ 39 :: behind ms t) := by
  cases ms with
  | nil => simp [Mem.joinL, Mem.qm, behind]
  | cons a r => simp [Mem.joinL, Mem.qm, behind]

theorem behind_hd (ms : List (List Int)) (t : List Int) : ∀ c r, behind ms t = c :: r → c ≠ 39 := by
  intro c r h
  cases ms with
  | nil => injection h with h1 _; omega
  | cons a q => injection h with h1 _; omega

set_option maxHeartbeats 1600000 in
set_option maxRecDepth 100000 in
/-- The loop and all behind it, once the opening word is off. -/
theorem great_walk (s : ByteArray) (isSet : Bool) (ms : List (List Int)) (t : List Int) (R : Int) (K : Bool) (w : World) (hs : s.size ≤ 1000000000) (hN : ms.length ≤ 1000000)
    (h : sbytes s = (if isSet = true then [115, 101, 116, 40] else [101, 110, 117, 109, 40]) ++ (Mem.joinL ms ++ 41 :: t)) (hR : gm isSet ms.length = (R, K)) :
    Calls Try.prog 10 #[.string s] w fun e w' => e = .returned (.tuple #[.int .u64 R, .bool K]) ∧ w' = w := by
  have HR : Hid _ := hR
  clear hR
  cases isSet with
  | true =>
    have H0 : Hid (sbytes s = sbytes ⟨#[115, 101, 116, 40]⟩ ++ (Mem.joinL ms ++ 41 :: t)) := h
    clear h
    go_enter Try.func10, Try.ntmps10
    go_wp2_with fail
    refine (cut_yes s _ _ _ hs H0.out).mono ?_
    rintro e w1 ⟨s1, rfl, rfl, hs1, hs1l⟩
    have HS1 : Hid _ := hs1
    clear hs1
    go_wp2_with fail
    go_loopg [4, 7] ms.length (fun gk v4 v7 wr => ∃ (sv : ByteArray) (ms' : List (List Int)) (k : Nat), v4 = .string sv ∧ v7 = .int .u64 k ∧ k + ms'.length = ms.length ∧ gk = ms'.length ∧ sv.size ≤ 1000000000 ∧ (ms' = [] → k = 0) ∧ Hid (sbytes sv = Mem.joinL ms' ++ 41 :: t) ∧ w1 = wr)
    case atStart => exact ⟨s1, ms, 0, rfl, rfl, by omega, rfl, by omega, fun _ => rfl, HS1, rfl⟩
    case round =>
      clear HS1
      obtain ⟨sv, ms', k, rfl, rfl, hk, hgk, hsv, hk0, H, rfl⟩ := hrel
      have HG : Hid _ := hgk
      clear hgk
      cases ms' with
      | nil =>
        obtain rfl : k = 0 := hk0 rfl
        have hN0 : ms.length = 0 := by simpa using hk.symm
        have hRK := HR.out
        rw [hN0] at hRK
        obtain ⟨rfl, rfl⟩ : R = 0 ∧ K = false := by simp [gm] at hRK; exact ⟨hRK.1.symm, hRK.2⟩
        have H2 : Hid (sbytes sv = 41 :: t) := H.out
        clear hRK H hk hk0 hN0
        go_wp2_with (go_at_call 12; refine (quoted_no sv 41 t _ hsv H2.out (by omega)).mono ?_; rintro e w' ⟨rfl, rfl⟩)
        go_ret2
        exact ⟨rfl, rfl⟩
      | cons m ms' =>
        have hj := H.out
        rw [join_cons] at hj
        have hlen := congrArg List.length hj
        rw [sbytes_length] at hlen
        simp only [List.length_cons, List.length_append] at hlen hk
        obtain ⟨E, hE⟩ : ∃ E, E = (Mem.dbl m).length + 1 := ⟨_, rfl⟩
        have hE2 : E + 1 + (behind ms' t).length = sv.size := by omega
        have hrest : sbytes (sv.extract (E + 1) sv.size) = behind ms' t := by
          rw [sbytes_extract, hj, hE]
          have : (39 :: (Mem.dbl m ++ 39 :: behind ms' t)) = (39 :: (Mem.dbl m ++ [39])) ++ behind ms' t := by simp
          rw [this]
          exact List.drop_left' (by simp)
        have hsv2 : (sv.extract (E + 1) sv.size).size ≤ 1000000000 := by simp; omega
        have hE3 : E + 1 ≤ sv.size := by omega
        have HJ : Hid _ := hj
        have HE2 : Hid _ := hE2
        have HREST : Hid _ := hrest
        have HSV2 : Hid _ := hsv2
        clear hj hlen hE hE2 hrest hsv2 H hk0
        cases ms' with
        | nil =>
          have hk1 : k + 1 = ms.length := by simpa using hk
          have HK1 : Hid _ := hk1
          have HR1 : Hid (sbytes (sv.extract (E + 1) sv.size) = sbytes ⟨#[41]⟩ ++ t) := HREST.out
          have hkb : k + 1 ≤ 1000000 := by omega
          clear hk hk1
          have hRK := HR.out
          rw [← HK1.out] at hRK
          by_cases h64 : 64 ≤ k + 1
          · obtain ⟨rfl, rfl⟩ : R = 0 ∧ K = false := by simp [gm, h64] at hRK; exact ⟨hRK.1.symm, hRK.2⟩
            clear hRK
            go_wp2_with (first | (go_at_call 12; refine (quoted_yes sv _ (behind [] t) E _ hsv HJ.out ⟨m, .inl rfl⟩ (behind_hd [] t) HE2.out).mono ?_; rintro e w' ⟨rfl, rfl⟩) | (go_at_call 13; refine (has_yes (sv.extract (E + 1) sv.size) ⟨#[41]⟩ t _ HSV2.out HR1.out).mono ?_; rintro e w' ⟨rfl, rfl⟩))
            go_ret2
            exact ⟨rfl, rfl⟩
          · obtain ⟨rfl, rfl⟩ : R = ((2 ^ (k + 1) - 1 : Nat) : Int) ∧ K = true := by simp [gm, h64] at hRK; exact ⟨hRK.1.symm, hRK.2⟩
            clear hRK
            go_wp2_with (first | (go_at_call 12; refine (quoted_yes sv _ (behind [] t) E _ hsv HJ.out ⟨m, .inl rfl⟩ (behind_hd [] t) HE2.out).mono ?_; rintro e w' ⟨rfl, rfl⟩) | (go_at_call 13; refine (has_yes (sv.extract (E + 1) sv.size) ⟨#[41]⟩ t _ HSV2.out HR1.out).mono ?_; rintro e w' ⟨rfl, rfl⟩))
            go_ret2
            exact ⟨ret_tup (shl_val k (by omega)) rfl, rfl⟩
        | cons m2 ms' =>
          have hkb : k + 1 ≤ 1000000 := by simp at hk; omega
          have hk2 : k + 1 + (m2 :: ms').length = ms.length := by simp at hk ⊢; omega
          have HK2 : Hid _ := hk2
          have HR1 : Hid (sbytes (sv.extract (E + 1) sv.size) = 44 :: (Mem.joinL (m2 :: ms') ++ 41 :: t)) := HREST.out
          have HR2 : Hid (sbytes (sv.extract (E + 1) sv.size) = sbytes ⟨#[44]⟩ ++ (Mem.joinL (m2 :: ms') ++ 41 :: t)) := HREST.out
          clear hk hk2
          go_wp2_with (first | (go_at_call 12; refine (quoted_yes sv _ (behind (m2 :: ms') t) E _ hsv HJ.out ⟨m, .inl rfl⟩ (behind_hd _ t) HE2.out).mono ?_; rintro e w' ⟨rfl, rfl⟩) | (go_at_call 13; refine (has_no (sv.extract (E + 1) sv.size) ⟨#[41]⟩ 44 41 _ [] _ HSV2.out (by decide) HR1.out rfl (by omega)).mono ?_; rintro e w' ⟨rfl, rfl⟩) | (go_at_call 11; refine (cut_yes (sv.extract (E + 1) sv.size) ⟨#[44]⟩ (Mem.joinL (m2 :: ms') ++ 41 :: t) _ HSV2.out HR2.out).mono ?_; rintro e w' ⟨s3, rfl, rfl, hs3, hs3l⟩; have HS3 : Hid _ := hs3; have HS3L : Hid _ := hs3l; clear hs3 hs3l))
          go_roundg (m2 :: ms').length
          case measure => have := HG.out; simp at this ⊢; omega
          case rel => exact ⟨s3, m2 :: ms', k + 1, rfl, by go_num, HK2.out, rfl, Nat.le_trans HS3L.out HSV2.out, (fun h => by cases h), HS3, rfl⟩
  | false =>
    have H0 : Hid (sbytes s = sbytes ⟨#[101, 110, 117, 109, 40]⟩ ++ (Mem.joinL ms ++ 41 :: t)) := h
    clear h
    go_enter Try.func10, Try.ntmps10
    go_wp2_with fail
    refine (cut_no s _ 101 115 _ [101, 116, 40] _ hs (by decide) H0.out rfl (by omega)).mono ?_
    rintro e w0 ⟨rfl, rfl⟩
    go_wp2_with fail
    refine (cut_yes s _ _ _ hs H0.out).mono ?_
    rintro e w1 ⟨s1, rfl, rfl, hs1, hs1l⟩
    have HS1 : Hid _ := hs1
    clear hs1
    go_wp2_with fail
    go_loopg [4, 7] ms.length (fun gk v4 v7 wr => ∃ (sv : ByteArray) (ms' : List (List Int)) (k : Nat), v4 = .string sv ∧ v7 = .int .u64 k ∧ k + ms'.length = ms.length ∧ gk = ms'.length ∧ sv.size ≤ 1000000000 ∧ (ms' = [] → k = 0) ∧ Hid (sbytes sv = Mem.joinL ms' ++ 41 :: t) ∧ w1 = wr)
    case atStart => exact ⟨s1, ms, 0, rfl, rfl, by omega, rfl, by omega, fun _ => rfl, HS1, rfl⟩
    case round =>
      clear HS1
      obtain ⟨sv, ms', k, rfl, rfl, hk, hgk, hsv, hk0, H, rfl⟩ := hrel
      have HG : Hid _ := hgk
      clear hgk
      cases ms' with
      | nil =>
        obtain rfl : k = 0 := hk0 rfl
        have hN0 : ms.length = 0 := by simpa using hk.symm
        have hRK := HR.out
        rw [hN0] at hRK
        obtain ⟨rfl, rfl⟩ : R = 0 ∧ K = false := by simp [gm] at hRK; exact ⟨hRK.1.symm, hRK.2⟩
        have H2 : Hid (sbytes sv = 41 :: t) := H.out
        clear hRK H hk hk0 hN0
        go_wp2_with (go_at_call 12; refine (quoted_no sv 41 t _ hsv H2.out (by omega)).mono ?_; rintro e w' ⟨rfl, rfl⟩)
        go_ret2
        exact ⟨rfl, rfl⟩
      | cons m ms' =>
        have hj := H.out
        rw [join_cons] at hj
        have hlen := congrArg List.length hj
        rw [sbytes_length] at hlen
        simp only [List.length_cons, List.length_append] at hlen hk
        obtain ⟨E, hE⟩ : ∃ E, E = (Mem.dbl m).length + 1 := ⟨_, rfl⟩
        have hE2 : E + 1 + (behind ms' t).length = sv.size := by omega
        have hrest : sbytes (sv.extract (E + 1) sv.size) = behind ms' t := by
          rw [sbytes_extract, hj, hE]
          have : (39 :: (Mem.dbl m ++ 39 :: behind ms' t)) = (39 :: (Mem.dbl m ++ [39])) ++ behind ms' t := by simp
          rw [this]
          exact List.drop_left' (by simp)
        have hsv2 : (sv.extract (E + 1) sv.size).size ≤ 1000000000 := by simp; omega
        have hE3 : E + 1 ≤ sv.size := by omega
        have HJ : Hid _ := hj
        have HE2 : Hid _ := hE2
        have HREST : Hid _ := hrest
        have HSV2 : Hid _ := hsv2
        clear hj hlen hE hE2 hrest hsv2 H hk0
        cases ms' with
        | nil =>
          have hk1 : k + 1 = ms.length := by simpa using hk
          have HK1 : Hid _ := hk1
          have HR1 : Hid (sbytes (sv.extract (E + 1) sv.size) = sbytes ⟨#[41]⟩ ++ t) := HREST.out
          have hkb : k + 1 ≤ 1000000 := by omega
          clear hk hk1
          have hRK := HR.out
          rw [← HK1.out] at hRK
          obtain ⟨rfl, rfl⟩ : R = ((k + 1 : Nat) : Int) ∧ K = true := by simp [gm] at hRK; exact ⟨by rw [← hRK.1]; rfl, hRK.2⟩
          clear hRK
          go_wp2_with (first | (go_at_call 12; refine (quoted_yes sv _ (behind [] t) E _ hsv HJ.out ⟨m, .inl rfl⟩ (behind_hd [] t) HE2.out).mono ?_; rintro e w' ⟨rfl, rfl⟩) | (go_at_call 13; refine (has_yes (sv.extract (E + 1) sv.size) ⟨#[41]⟩ t _ HSV2.out HR1.out).mono ?_; rintro e w' ⟨rfl, rfl⟩))
          go_ret2
          exact ⟨ret_tup (by omega) rfl, rfl⟩
        | cons m2 ms' =>
          have hkb : k + 1 ≤ 1000000 := by simp at hk; omega
          have hk2 : k + 1 + (m2 :: ms').length = ms.length := by simp at hk ⊢; omega
          have HK2 : Hid _ := hk2
          have HR1 : Hid (sbytes (sv.extract (E + 1) sv.size) = 44 :: (Mem.joinL (m2 :: ms') ++ 41 :: t)) := HREST.out
          have HR2 : Hid (sbytes (sv.extract (E + 1) sv.size) = sbytes ⟨#[44]⟩ ++ (Mem.joinL (m2 :: ms') ++ 41 :: t)) := HREST.out
          clear hk hk2
          go_wp2_with (first | (go_at_call 12; refine (quoted_yes sv _ (behind (m2 :: ms') t) E _ hsv HJ.out ⟨m, .inl rfl⟩ (behind_hd _ t) HE2.out).mono ?_; rintro e w' ⟨rfl, rfl⟩) | (go_at_call 13; refine (has_no (sv.extract (E + 1) sv.size) ⟨#[41]⟩ 44 41 _ [] _ HSV2.out (by decide) HR1.out rfl (by omega)).mono ?_; rintro e w' ⟨rfl, rfl⟩) | (go_at_call 11; refine (cut_yes (sv.extract (E + 1) sv.size) ⟨#[44]⟩ (Mem.joinL (m2 :: ms') ++ 41 :: t) _ HSV2.out HR2.out).mono ?_; rintro e w' ⟨s3, rfl, rfl, hs3, hs3l⟩; have HS3 : Hid _ := hs3; have HS3L : Hid _ := hs3l; clear hs3 hs3l))
          go_roundg (m2 :: ms').length
          case measure => have := HG.out; simp at this ⊢; omega
          case rel => exact ⟨s3, m2 :: ms', k + 1, rfl, by go_num, HK2.out, rfl, Nat.le_trans HS3L.out HSV2.out, (fun h => by cases h), HS3, rfl⟩
end Go.Proofs.Qxb6600799a
