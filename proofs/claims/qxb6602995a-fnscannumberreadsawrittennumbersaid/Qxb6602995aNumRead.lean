/- The walk of the law 'FnScanNumberReadsAWrittenNumber'. -/
import Derived.Test.Qxb6602995aNumEnd
import Derived.Test.Qxb6602995aDec
import Derived.Deep.DeepCutAuto
namespace Go.Proofs.Qxb6602995a
open Go.RowKit

/-- The bound that was laid ahead of this law. -/
def zzh (a b : Nat) : Bool := decide (a + b ≤ 1048576)

theorem zz24_any (a0 : ByteArray) (a1 : Int) (a2 : Bool) (a3 a4 : Int) (a5 a6 a7 : Bool) (a8 : Int) (a9 : ByteArray) (w : World) (w0 : a0.size ≤ maxLen) (w9 : a9.size ≤ maxLen) :
    Calls Try.prog 24 #[.string a0, .int .i64 a1, .bool a2, .int .u8 a3, .int .u32 a4, .bool a5, .bool a6, .bool a7, .int .i16 a8, .string a9] w fun e w' => e = .returned (.bool (zzh a0.size a9.size)) ∧ w' = w := by
  unfold maxLen at w0 w9
  by_cases h : a0.size + a9.size ≤ 1048576
  · rw [show zzh a0.size a9.size = true from decide_eq_true h]
    go_enter Try.func24, Try.ntmps24
    go_wp2
    go_ret
    exact ⟨rfl, rfl⟩
  · rw [show zzh a0.size a9.size = false from decide_eq_false h]
    by_cases h1 : a0.size ≤ 1048576
    · by_cases h2 : a9.size ≤ 1048576
      · go_enter Try.func24, Try.ntmps24
        go_wp2
        go_ret
        exact ⟨rfl, rfl⟩
      · go_enter Try.func24, Try.ntmps24
        go_wp2
        go_ret
        exact ⟨rfl, rfl⟩
    · go_enter Try.func24, Try.ntmps24
      go_wp2
      go_ret
      exact ⟨rfl, rfl⟩

/-- A byte that may go on a number. -/
def mcB (c : Int) : Bool := decide ((48 ≤ c ∧ c ≤ 57) ∨ c = 46 ∨ c = 101 ∨ c = 69)

theorem mayContinue_any (c : Int) (w : World) : Calls Try.prog 25 #[.int .u8 c] w fun e w' => e = .returned (.bool (mcB c)) ∧ w' = w := by
  rcases (show c = 46 ∨ c = 101 ∨ c = 69 ∨ (48 ≤ c ∧ c ≤ 57) ∨ ((c == 46) = false ∧ (c == 101) = false ∧ (c == 69) = false ∧ c < 48) ∨ ((c == 46) = false ∧ (c == 101) = false ∧ (c == 69) = false ∧ 57 < c) by simp only [beq_eq_false_iff_ne]; omega) with rfl | rfl | rfl | ⟨h1, h2⟩ | ⟨d1, d2, d3, h1⟩ | ⟨d1, d2, d3, h1⟩
  iterate 3
    · go_enter Try.func25, Try.ntmps25
      go_wp2
      go_ret
      exact ⟨rfl, rfl⟩
  · rw [show mcB c = true from decide_eq_true (by omega)]
    go_enter Try.func25, Try.ntmps25
    go_wp2
    go_ret
    exact ⟨rfl, rfl⟩
  iterate 2
    · rw [show mcB c = false from decide_eq_false (by simp only [beq_eq_false_iff_ne, ne_eq] at d1 d2 d3; omega)]
      go_enter Try.func25, Try.ntmps25
      go_wp2
      go_ret
      exact ⟨ret_bool (by first | rfl | (simp; omega)), rfl⟩

theorem tail_ok (s : ByteArray) (h : s.size = 0 ∨ ∃ h : 0 < s.size, mcB (s[0].toNat : Int) = false) : Num.TailT (sbytes s) := by
  intro c r e
  rcases h with h | ⟨h0, h⟩
  · have := congrArg List.length e
    rw [sbytes_length] at this
    simp at this
    omega
  · have h1 : (sbytes s)[0]? = some (s[0].toNat : Int) := by
      have := sbytes_take s 0 h0
      rw [List.take_zero, List.nil_append] at this
      rw [e] at this ⊢
      simpa using this
    rw [e] at h1
    obtain rfl : c = (s[0].toNat : Int) := by simpa using h1
    have hm : ¬ ((48 ≤ (s[0].toNat : Int) ∧ (s[0].toNat : Int) ≤ 57) ∨ (s[0].toNat : Int) = 46 ∨ (s[0].toNat : Int) = 101 ∨ (s[0].toNat : Int) = 69) := of_decide_eq_false h
    exact ⟨decide_eq_false (by omega), by omega, by omega, by omega⟩

theorem digs_rep (z : Nat) (D : List Int) (h : Num.Digs D) : Num.Digs (List.replicate z 48 ++ D) := by
  intro c hc
  rcases List.mem_append.1 hc with hc | hc
  · rw [(List.mem_replicate.1 hc).2]; decide
  · exact h c hc

theorem sign_cases (n : Int) : signL n = [] ∨ signL n = [45] := by
  unfold signL
  split
  · exact .inr rfl
  · exact .inl rfl

theorem Num.rem_of (A B : List Int) : Num.Rem (fun t => (A ++ B).getD t 0) (A ++ B).length A.length B :=
  ⟨fun t ht => by
    show (A ++ B).getD (A.length + t) 0 = B.getD t 0
    rw [List.getD_eq_getElem?_getD, List.getElem?_append_right (by omega), show A.length + t - A.length = t by omega, ← List.getD_eq_getElem?_getD], by rw [List.length_append]⟩

theorem sign_len (n : Int) : (signL n).length ≤ 1 := by
  rcases sign_cases n with h | h <;> rw [h] <;> simp

set_option maxHeartbeats 4000000 in
set_option maxRecDepth 100000 in
theorem numRead_main (a0 : ByteArray) (a1 : Int) (a2 : Bool) (a3 a4 : Int) (a5 a6 a7 : Bool) (a8 : Int) (a9 : ByteArray) (w : World) (hz : zzh a0.size a9.size = true) (w0 : a0.size ≤ 65536) (w9 : a9.size ≤ 65536)
    (b1 : -9223372036854775808 ≤ a1 ∧ a1 ≤ 9223372036854775807) (b3 : 0 ≤ a3 ∧ a3 ≤ 255) (b4 : 0 ≤ a4 ∧ a4 ≤ 4294967295) (b8 : -32768 ≤ a8 ∧ a8 ≤ 32767)
    (hT : a9.size = 0 ∨ ∃ h : 0 < a9.size, mcB (a9[0].toNat : Int) = false) :
    Calls Try.prog 7 #[.string a0, .int .i64 a1, .bool a2, .int .u8 a3, .int .u32 a4, .bool a5, .bool a6, .bool a7, .int .i16 a8, .string a9] w fun e w' => e = .returned (.bool true) ∧ Below w.heap.size w w' := by
  have HT : Hid _ := tail_ok a9 hT
  obtain ⟨Z, rfl⟩ := Int.eq_ofNat_of_zero_le b3.1
  have hsl := sbytes_length a0
  have hsl9 := sbytes_length a9
  have HS0 : Hid _ := hsl
  have HS9 : Hid _ := hsl9
  clear hsl hsl9
  obtain ⟨b1a, b1b⟩ := b1
  obtain ⟨b4a, b4b⟩ := b4
  obtain ⟨b8a, b8b⟩ := b8
  go_enter Try.func7, Try.ntmps7
  go_upto_region 5 with (go_at_call 24; refine (zz24_any _ _ _ _ _ _ _ _ _ _ _ (by unfold maxLen; omega) (by unfold maxLen; omega)).mono ?_; rintro e w' ⟨rfl, rfl⟩)
  go_cut [53] (fun s wx => s = .bool false ∧ w' = wx)
  case first =>
    rcases hT with hT | ⟨h0, hT⟩
    · have q : a9.size ≤ 0 := by omega
      clear hT
      go_wp2
      go_meet
      case rel => exact ⟨rfl, rfl⟩
    · have q : (0 : Int) < (a9.size : Int) := by omega
      have HM : Hid _ := hT
      clear hT
      go_wp2_with fail
      refine (mayContinue_any _ _).mono ?_
      rintro e w2 ⟨rfl, rfl⟩
      rw [HM.out]
      go_wp2
      go_meet
      case rel => exact ⟨rfl, rfl⟩
  case rest =>
    obtain ⟨rfl, rfl⟩ := hcut
    clear hT
    go_wp2_with (at_make; refine wpList_mk _ rfl _ _ rfl _ _ _ 320 rfl rfl rfl (by omega) ?_)
    intro v1 w1 hB1 hb1
    have hz1 := hb1.size
    go_wp2_with fail
    refine (appendDecimalInt_any v1 [] w'.heap.size a1 _ b1a b1b (by simp) hB1 (by omega)).mono ?_
    rintro e w2 ⟨v2, D1, rfl, hB2, hb2, hD1, _, _, hD1l⟩
    have hz2 := hb2.size
    have hB2 : Buf w2 w'.heap.size v2 (signL a1 ++ D1) := hB2
    have hbb2 := hb1.trans hb2
    clear hB1 hb1 hb2
    have hs1 := sign_len a1
    go_upto_if 57 with fail
    go_cut [21] (fun s wx => ∃ F, Buf wx w'.heap.size s (signL a1 ++ D1 ++ F) ∧ Num.FracT F ∧ F.length ≤ 300 ∧ Below w'.heap.size w' wx)
    case first =>
      cases a2 with
      | false =>
        go_wp2
        go_meet
        case rel => exact ⟨[], by simpa using hB2, .inl rfl, by simp, hbb2⟩
      | true =>
        go_wp2_with (at_builtin; refine wpList_app _ rfl _ _ rfl w'.heap.size _ _ rfl hB2 [46] 1 1 rfl rfl (by simp; omega) (by omega) ?_)
        intro v3 w3 hB3 hb3
        have hz3 := hb3.size
        have hbb3 := hbb2.trans hb3
        have hB3' : Buf w3 w'.heap.size v3 (signL a1 ++ D1 ++ (46 :: List.replicate 0 48)) := by simpa using hB3
        clear hB3 hb3 hB2
        go_wp2
        go_loopw [21, 22] (fun v i wr => ∃ k : Nat, k ≤ Z ∧ i = .int .i64 k ∧ Buf wr w'.heap.size v (signL a1 ++ D1 ++ (46 :: List.replicate k 48)) ∧ Below w'.heap.size w' wr) (fun _ i _ => Z - (intOf i).toNat)
        case atStart => exact ⟨0, by omega, rfl, hB3', hbb3⟩
        case round =>
          clear hB3' hbb3
          obtain ⟨k, hk, rfl, hB4, hb4⟩ := hrel
          have hz4 := hb4.size
          by_cases hlt : k < Z
          · go_wp2_with (at_builtin; refine wpList_app _ rfl _ _ rfl w'.heap.size _ _ rfl hB4 [48] 1 1 rfl rfl (by simp; omega) (by omega) ?_)
            intro v5 w5 hB5 hb5
            have hB5' : Buf w5 w'.heap.size v5 (signL a1 ++ D1 ++ (46 :: List.replicate (k + 1) 48)) := by rw [List.replicate_succ']; simpa using hB5
            clear hB5
            go_wp2
            go_roundw
            case rel => exact ⟨k + 1, by omega, by go_num, hB5', hb4.trans hb5⟩
            case measure => simp [intOf]; omega
          · obtain rfl : k = Z := by omega
            go_wp2_with fail
            refine (appendDecimalUint_int _ _ w'.heap.size a4 _ b4a (by omega) (by simp; omega) hB4 (by omega)).mono ?_
            rintro e w6 ⟨v6, D2, rfl, hB6, hb6, _, hD2, hD2n, hD2l⟩
            have hF : Num.FracT (46 :: (List.replicate k 48 ++ D2)) := .inr ⟨_, rfl, digs_rep k D2 hD2, by simp [hD2n]⟩
            have hB6' : Buf w6 w'.heap.size v6 (signL a1 ++ D1 ++ (46 :: (List.replicate k 48 ++ D2))) := by simpa using hB6
            clear hB6
            go_wp2
            go_meet
            case rel => exact ⟨_, hB6', hF, by simp; omega, hb4.trans hb6⟩
    case rest =>
      obtain ⟨F, hB7, hF, hFl, hb7⟩ := hcut
      clear hB2 hbb2
      have hz7 := hb7.size
      go_upto_if 74 with fail
      go_cut [21] (fun s wx => ∃ X, Buf wx w'.heap.size s (signL a1 ++ D1 ++ F ++ X) ∧ Num.ExpT X ∧ X.length ≤ 300 ∧ Below w'.heap.size w' wx)
      case first =>
        cases a5 with
        | false =>
          go_wp2
          go_meet
          case rel => exact ⟨[], by simpa using hB7, .inl rfl, by simp, hb7⟩
        | true =>
          cases a6 with
          | true =>
            go_wp2_with (at_builtin; refine wpList_app _ rfl (.tmp 76) _ rfl w'.heap.size _ _ rfl hB7 [69] 1 1 rfl rfl (by simp; omega) (by omega) ?_)
            intro v8 w8 hB8 hb8
            have hz8 := hb8.size
            have hb8' := hb7.trans hb8
            clear hB7 hb8 hb7
            by_cases hp : a7 = true ∧ 0 ≤ a8
            · obtain ⟨rfl, hp⟩ := hp
              have HSG : Hid (signL a8 = []) := if_neg (by omega)
              go_wp2_with (at_builtin; refine wpList_app _ rfl _ _ rfl w'.heap.size _ _ rfl hB8 [43] 1 1 rfl rfl (by simp; omega) (by omega) ?_)
              intro v9 w9 hB9 hb9
              have hz9 := hb9.size
              go_wp2_with fail
              refine (appendDecimalInt_any _ _ w'.heap.size a8 _ (by omega) (by omega) (by simp; omega) hB9 (by omega)).mono ?_
              rintro e w10 ⟨v10, D3, rfl, hB10, hb10, _, hD3, hD3n, hD3l⟩
              have hX : Num.ExpT (69 :: ([43] ++ D3)) := .inr ⟨69, [43], D3, rfl, by omega, .inr (.inl rfl), hD3, hD3n⟩
              have hB10' : Buf w10 w'.heap.size v10 (signL a1 ++ D1 ++ F ++ (69 :: ([43] ++ D3))) := by rw [HSG.out] at hB10; simpa using hB10
              clear hB10
              go_wp2
              go_meet
              case rel => exact ⟨_, hB10', hX, by simp; omega, (hb8'.trans hb9).trans hb10⟩
            · have hs8 := sign_len a8
              have HSC : Hid _ := sign_cases a8
              have hp2 : a7 = false ∨ (a7 = true ∧ a8 < 0) := by
                cases a7 with
                | false => exact .inl rfl
                | true => exact .inr ⟨rfl, by have : ¬ (0 ≤ a8) := fun h => hp ⟨rfl, h⟩; omega⟩
              clear hp
              rcases hp2 with rfl | ⟨rfl, hp2⟩
              all_goals
                go_wp2_with fail
                refine (appendDecimalInt_any _ _ w'.heap.size a8 _ (by omega) (by omega) (by simp; omega) hB8 (by omega)).mono ?_
                rintro e w10 ⟨v10, D3, rfl, hB10, hb10, _, hD3, hD3n, hD3l⟩
                have hX : Num.ExpT (69 :: (signL a8 ++ D3)) := .inr ⟨69, signL a8, D3, rfl, by omega, by rcases HSC.out with h | h; exact .inl h; exact .inr (.inr h), hD3, hD3n⟩
                have hB10' : Buf w10 w'.heap.size v10 (signL a1 ++ D1 ++ F ++ (69 :: (signL a8 ++ D3))) := by simpa using hB10
                clear hB10
                go_wp2
                go_meet
                case rel => exact ⟨_, hB10', hX, by simp; omega, hb8'.trans hb10⟩
          | false =>
            go_wp2_with (at_builtin; refine wpList_app _ rfl (.tmp 79) _ rfl w'.heap.size _ _ rfl hB7 [101] 1 1 rfl rfl (by simp; omega) (by omega) ?_)
            intro v8 w8 hB8 hb8
            have hz8 := hb8.size
            have hb8' := hb7.trans hb8
            clear hB7 hb8 hb7
            by_cases hp : a7 = true ∧ 0 ≤ a8
            · obtain ⟨rfl, hp⟩ := hp
              have HSG : Hid (signL a8 = []) := if_neg (by omega)
              go_wp2_with (at_builtin; refine wpList_app _ rfl _ _ rfl w'.heap.size _ _ rfl hB8 [43] 1 1 rfl rfl (by simp; omega) (by omega) ?_)
              intro v9 w9 hB9 hb9
              have hz9 := hb9.size
              go_wp2_with fail
              refine (appendDecimalInt_any _ _ w'.heap.size a8 _ (by omega) (by omega) (by simp; omega) hB9 (by omega)).mono ?_
              rintro e w10 ⟨v10, D3, rfl, hB10, hb10, _, hD3, hD3n, hD3l⟩
              have hX : Num.ExpT (101 :: ([43] ++ D3)) := .inr ⟨101, [43], D3, rfl, by omega, .inr (.inl rfl), hD3, hD3n⟩
              have hB10' : Buf w10 w'.heap.size v10 (signL a1 ++ D1 ++ F ++ (101 :: ([43] ++ D3))) := by rw [HSG.out] at hB10; simpa using hB10
              clear hB10
              go_wp2
              go_meet
              case rel => exact ⟨_, hB10', hX, by simp; omega, (hb8'.trans hb9).trans hb10⟩
            · have hs8 := sign_len a8
              have HSC : Hid _ := sign_cases a8
              have hp2 : a7 = false ∨ (a7 = true ∧ a8 < 0) := by
                cases a7 with
                | false => exact .inl rfl
                | true => exact .inr ⟨rfl, by have : ¬ (0 ≤ a8) := fun h => hp ⟨rfl, h⟩; omega⟩
              clear hp
              rcases hp2 with rfl | ⟨rfl, hp2⟩
              all_goals
                go_wp2_with fail
                refine (appendDecimalInt_any _ _ w'.heap.size a8 _ (by omega) (by omega) (by simp; omega) hB8 (by omega)).mono ?_
                rintro e w10 ⟨v10, D3, rfl, hB10, hb10, _, hD3, hD3n, hD3l⟩
                have hX : Num.ExpT (101 :: (signL a8 ++ D3)) := .inr ⟨101, signL a8, D3, rfl, by omega, by rcases HSC.out with h | h; exact .inl h; exact .inr (.inr h), hD3, hD3n⟩
                have hB10' : Buf w10 w'.heap.size v10 (signL a1 ++ D1 ++ F ++ (101 :: (signL a8 ++ D3))) := by simpa using hB10
                clear hB10
                go_wp2
                go_meet
                case rel => exact ⟨_, hB10', hX, by simp; omega, hb8'.trans hb10⟩
      case rest =>
        obtain ⟨X, hB11, hX, hXl, hb11⟩ := hcut
        clear hB7 hb7
        have hz11 := hb11.size
        obtain ⟨N, hN⟩ : ∃ N, N = signL a1 ++ D1 ++ F ++ X := ⟨_, rfl⟩
        have hNl : N.length ≤ 700 := by rw [hN]; simp; omega
        rw [← hN] at hB11
        have HN : Hid _ := hN
        clear hN
        obtain ⟨gn, cn, rfl, hgn⟩ := hB11.shape
        have hgn2 := hB11.lt
        go_wp2_with (at_make; refine wpList_mk _ rfl _ _ rfl _ _ _ (a0.size + N.length + a9.size) rfl rfl (by simp) (by omega) ?_)
        intro v12 w12 hB12 hb12
        have hz12 := hb12.size
        go_wp2_with (at_builtin; refine wpList_apps _ rfl _ _ rfl wc.heap.size _ _ rfl hB12 a0 rfl (by simp; omega) (by omega) ?_)
        intro v13 w13 hB13 hb13
        have hz13 := hb13.size
        have hB13 : Buf w13 wc.heap.size v13 (sbytes a0) := hB13
        have hrow13 : Row .u8 w13 gn 0 N.length (fun t => N.getD t 0) := (hB11.row.below hb12 hgn2).below hb13 (by omega)
        go_wp2_with (at_builtin; refine wpList_appr _ rfl _ _ rfl wc.heap.size _ _ rfl hB13 gn cn 0 N N.length rfl rfl hrow13 (by rw [HS0.out]; omega) (by omega) ?_)
        intro v14 w14 hB14 hb14
        have hz14 := hb14.size
        go_wp2_with (at_builtin; refine wpList_apps _ rfl _ _ rfl wc.heap.size _ _ rfl hB14 a9 rfl (by simp [HS0.out]; omega) (by omega) ?_)
        intro v15 w15 hB15 hb15
        have hz15 := hb15.size
        have hL : Buf w15 wc.heap.size v15 (sbytes a0 ++ (N ++ sbytes a9)) := by simpa using hB15
        have hLn : (sbytes a0 ++ (N ++ sbytes a9)).length = a0.size + N.length + a9.size := by simp [HS0.out, HS9.out]; omega
        have hrem := Num.rem_of (sbytes a0) (N ++ sbytes a9)
        have hfin : Num.scanN (fun t => (sbytes a0 ++ (N ++ sbytes a9)).getD t 0) (a0.size + N.length + a9.size) a0.size = (a0.size + N.length, true) := by
          rw [hLn, HS0.out] at hrem
          have e : N ++ sbytes a9 = signL a1 ++ (D1 ++ (F ++ (X ++ sbytes a9))) := by rw [HN.out]; simp
          have hr2 : Num.Rem (fun t => (sbytes a0 ++ (N ++ sbytes a9)).getD t 0) (a0.size + N.length + a9.size) a0.size (signL a1 ++ (D1 ++ (F ++ (X ++ sbytes a9)))) := by rw [← e]; exact hrem
          have := Num.reads_written hr2 (sign_cases a1) hD1 hF hX HT.out
          rw [this, HN.out]
          simp
          omega
        have hbel : Below w'.heap.size w' w15 := hb11.trans ((((hb12.trans hb13).trans hb14).trans hb15).mono (by omega))
        clear hB12 hB13 hB14 hB15 hb12 hb13 hb14 hb15 hrow13 hB11 hrem
        generalize hLL : sbytes a0 ++ (N ++ sbytes a9) = L at *
        obtain ⟨g15, c15, rfl, hg15⟩ := hL.shape
        have hrow15 := hL.row
        rw [hLn] at hrow15
        have HFIN : Hid _ := hfin
        have HLN : Hid _ := hLn
        have hN0 : 0 < N.length := by
          have := HN.out
          rw [this]
          have : D1 ≠ [] := by
            rcases hD1 with h | ⟨c, D, h, _⟩ <;> rw [h] <;> simp
          have := List.length_pos_iff.2 this
          simp
          omega
        clear hfin hLn hLL
        go_wp2_with fail
        rw [HLN.out]
        refine (zzscanNumber_any (fun t => L.getD t 0) (a0.size + N.length + a9.size) (a0.size + N.length) true g15 0 c15 a0.size _ (by omega) (by omega) hrow15 HFIN.out).mono ?_
        rintro e w16 ⟨rfl, rfl⟩
        go_wp2
        go_ret
        exact ⟨rfl, hbel⟩

set_option maxHeartbeats 1000000 in
set_option maxRecDepth 100000 in
theorem numRead_walk (a0 : ByteArray) (a1 : Int) (a2 : Bool) (a3 : Int) (a4 : Int) (a5 : Bool) (a6 : Bool) (a7 : Bool) (a8 : Int) (a9 : ByteArray) (w0 : a0.size ≤ maxLen) (w1 : (Lit.int .i64 a1).wf = true) (w3 : (Lit.int .u8 a3).wf = true) (w4 : (Lit.int .u32 a4).wf = true) (w8 : (Lit.int .i16 a8).wf = true) (w9 : a9.size ≤ maxLen) (w : World) :
    Calls Try.prog 7 #[.string a0, .int .i64 a1, .bool a2, .int .u8 a3, .int .u32 a4, .bool a5, .bool a6, .bool a7, .int .i16 a8, .string a9] w fun e w' => e = .returned (.bool true) ∧ Below w.heap.size w w' := by
  have b1 := bounds_i64 w1
  have b3 := bounds_u8 w3
  have b4 := bounds_u32 w4
  have b8 := bounds_i16 w8
  clear w1 w3 w4 w8
  cases hz : zzh a0.size a9.size with
  | false =>
    go_enter Try.func7, Try.ntmps7
    go_wp2_with (go_at_call 24; refine (zz24_any _ _ _ _ _ _ _ _ _ _ _ w0 w9).mono ?_; rintro e w' ⟨rfl, rfl⟩)
    go_ret
    exact ⟨rfl, Below.refl _ _⟩
  | true =>
    by_cases h1 : a0.size ≤ 65536
    · by_cases h2 : a9.size ≤ 65536
      · by_cases h3 : a9.size = 0
        · exact numRead_main a0 a1 a2 a3 a4 a5 a6 a7 a8 a9 w hz h1 h2 b1 b3 b4 b8 (.inl h3)
        · have h4 : 0 < a9.size := by omega
          cases hm : mcB (a9[0].toNat : Int) with
          | false => exact numRead_main a0 a1 a2 a3 a4 a5 a6 a7 a8 a9 w hz h1 h2 b1 b3 b4 b8 (.inr ⟨h4, hm⟩)
          | true =>
            have q : (0 : Int) < (a9.size : Int) := by omega
            have HM : Hid _ := hm
            clear hm h3
            go_enter Try.func7, Try.ntmps7
            go_wp2_with (go_at_call 24; refine (zz24_any _ _ _ _ _ _ _ _ _ _ _ w0 w9).mono ?_; rintro e w' ⟨rfl, rfl⟩)
            refine (mayContinue_any _ _).mono ?_
            rintro e w2 ⟨rfl, rfl⟩
            rw [HM.out]
            go_wp2
            go_ret
            exact ⟨rfl, Below.refl _ _⟩
      · go_enter Try.func7, Try.ntmps7
        go_wp2_with (go_at_call 24; refine (zz24_any _ _ _ _ _ _ _ _ _ _ _ w0 w9).mono ?_; rintro e w' ⟨rfl, rfl⟩)
        go_ret
        exact ⟨rfl, Below.refl _ _⟩
    · go_enter Try.func7, Try.ntmps7
      go_wp2_with (go_at_call 24; refine (zz24_any _ _ _ _ _ _ _ _ _ _ _ w0 w9).mono ?_; rintro e w' ⟨rfl, rfl⟩)
      go_ret
      exact ⟨rfl, Below.refl _ _⟩
end Go.Proofs.Qxb6602995a
