/- The walk of the law 'FnGreatestMemberReadsQuotedMembersBack'. -/
import Derived.Test.Qxb6600799aGreat
import Derived.Test.Qxb6600799aStrs
namespace Go.Proofs.Qxb6600799a
open Go.RowKit

/-- The members, as lists of bytes. -/
def mems (n : Nat) (S : Nat → ByteArray) : List (List Int) := (List.range n).map (fun t => sbytes (S t))

theorem mems_length (n : Nat) (S : Nat → ByteArray) : (mems n S).length = n := by simp [mems]
theorem mems_take (n : Nat) (S : Nat → ByteArray) (k : Nat) (h : k ≤ n) : (mems n S).take k = mems k S := by
  unfold mems
  rw [← List.map_take, List.take_range, Nat.min_eq_left h]
theorem mems_succ (k : Nat) (S : Nat → ByteArray) : mems (k + 1) S = mems k S ++ [sbytes (S k)] := by
  unfold mems
  rw [List.range_succ, List.map_append]
  rfl
theorem weigh_le (n : Nat) (S : Nat → ByteArray) (k : Nat) (h : k ≤ n) : Mem.weigh (mems k S) ≤ Mem.weigh (mems n S) := by
  rw [← mems_take n S k h]
  exact Mem.weigh_take _ _

theorem zzgreat_any (s : ByteArray) (isSet : Bool) (ms : List (List Int)) (t : List Int) (R : Int) (K : Bool) (w : World) (hs : s.size ≤ 1000000000) (hN : ms.length ≤ 1000000)
    (h : sbytes s = (if isSet = true then [115, 101, 116, 40] else [101, 110, 117, 109, 40]) ++ (Mem.joinL ms ++ 41 :: t)) (hR : gm isSet ms.length = (R, K)) :
    Calls Try.prog 6 #[.string s] w fun e w' => e = .returned (.tuple #[.int .u64 R, .bool K]) ∧ w' = w := by
  have H : Hid _ := h
  have HR : Hid _ := hR
  clear h hR
  go_enter Try.func6, Try.ntmps6
  go_wp2_with (go_at_call 10; refine (great_walk s isSet ms t R K _ hs hN H.out HR.out).mono ?_; rintro e w' ⟨rfl, rfl⟩)
  go_ret2
  exact ⟨rfl, rfl⟩

/-- The opening word. -/
def pre (isSet : Bool) : List Int := if isSet = true then [115, 101, 116, 40] else [101, 110, 117, 109, 40]

theorem bytes_all (isSet : Bool) (n : Nat) (S : Nat → ByteArray) (c : ByteArray) : ∀ x ∈ pre isSet ++ (Mem.joinL (mems n S) ++ 41 :: sbytes c), 0 ≤ x ∧ x ≤ 255 := by
  have hdbl : ∀ l : List Int, (∀ x ∈ l, 0 ≤ x ∧ x ≤ 255) → ∀ x ∈ Mem.dbl l, 0 ≤ x ∧ x ≤ 255 := by
    intro l
    induction l with
    | nil => intro _ x hx; simp [Mem.dbl] at hx
    | cons d r ih =>
      intro h x hx
      simp only [Mem.dbl, List.mem_append] at hx
      rcases hx with hx | hx
      · have : x = d := by
          unfold Mem.dblB at hx
          split at hx <;> simpa using hx
        rw [this]
        exact h d (by simp)
      · exact ih (fun y hy => h y (by simp [hy])) x hx
  have hjoin : ∀ ms : List (List Int), (∀ m ∈ ms, ∀ x ∈ m, 0 ≤ x ∧ x ≤ 255) → ∀ x ∈ Mem.joinL ms, 0 ≤ x ∧ x ≤ 255 := by
    intro ms
    induction ms with
    | nil => intro _ x hx; simp [Mem.joinL] at hx
    | cons m r ih =>
      intro h x hx
      have hm : ∀ y ∈ Mem.qm m, 0 ≤ y ∧ y ≤ 255 := by
        intro y hy
        simp only [Mem.qm, List.mem_cons, List.mem_append, List.not_mem_nil, or_false] at hy
        rcases hy with rfl | hy | rfl
        · omega
        · exact hdbl m (h m (by simp)) y hy
        · omega
      cases r with
      | nil => exact hm x hx
      | cons b r =>
        simp only [Mem.joinL, List.mem_append, List.mem_cons] at hx
        rcases hx with hx | rfl | hx
        · exact hm x hx
        · omega
        · exact ih (fun m' hm' => h m' (by simp [hm'])) x hx
  intro x hx
  simp only [List.mem_append, List.mem_cons] at hx
  rcases hx with hx | hx | rfl | hx
  · unfold pre at hx
    split at hx
    · simp at hx; omega
    · simp at hx; omega
  · refine hjoin _ (fun m hm => ?_) x hx
    obtain ⟨t, _, rfl⟩ := List.mem_map.1 hm
    exact sbytes_bounds _
  · omega
  · exact sbytes_bounds c x hx

theorem pre_len (b : Bool) : (pre b).length ≤ 5 := by cases b <;> decide

theorem join_step (k : Nat) (S : Nat → ByteArray) (P : List Int) : P ++ Mem.joinL (mems (k + 1) S) = P ++ Mem.joinL (mems k S) ++ (if k = 0 then [] else [44]) ++ [39] ++ Mem.dbl (sbytes (S k)) ++ [39] := by
  rw [mems_succ, Mem.joinL_snoc]
  have e : (mems k S = []) = (k = 0) := by
    rw [← List.length_eq_zero_iff, mems_length]
  simp only [e]
  simp [Mem.qm]

set_option maxHeartbeats 4000000 in
set_option maxRecDepth 100000 in
theorem back_main (ao : Option Addr) (n cap : Nat) (S : Nat → ByteArray) (c : ByteArray) (isSet : Bool) (w : World) (hn : n ≤ 65536) (hc : c.size ≤ 1048576) (hnil : ao = none → n = 0) (hS : StrsIn w w.heap.size ao n S) (hSz : ∀ t, t < n → (S t).size ≤ 9223372036854775807) :
    Calls Try.prog 4 #[.slice ao n cap, .string c, .bool isSet] w fun e w' => e = .returned (.bool true) ∧ Below w.heap.size w w' := by
  obtain ⟨i0, hi, hz0, hz1, hz2⟩ := info_parts Try.info9
  have HSZ : Hid _ := hSz
  have HNIL : Hid _ := hnil
  clear hSz hnil
  go_enter Try.func4, Try.ntmps4
  go_upto_if 23 with (go_at_call 8; refine (zz8_any ao n cap S c isSet _ (by omega) hS HSZ.out).mono ?_)
  rintro e w' ⟨he, rfl⟩
  rcases he with ⟨rfl, hsm⟩ | rfl
  · have HSM : Hid _ := hsm
    clear hsm HSZ
    go_wp2
    go_loopg [7, 8] n (fun gk s i wr => ∃ k : Nat, k ≤ n ∧ gk = n - k ∧ i = .int .i64 k ∧ s = .int .i64 ((c.size + Mem.weigh (mems k S) : Nat) : Int) ∧ c.size + Mem.weigh (mems k S) ≤ 1048576 ∧ w' = wr)
    case atStart => exact ⟨0, by omega, rfl, rfl, rfl, by simpa [mems, Mem.weigh] using hc, rfl⟩
    case round =>
      obtain ⟨k, hk, hg, rfl, rfl, hwk, rfl⟩ := hrel
      have HG : Hid _ := hg
      clear hg
      by_cases hlt : k < n
      · rcases hS with rfl | ⟨b, off, rfl, hlb, hS⟩
        · omega
        have hck := hS k hlt
        have hsk := HSM.out k hlt
        have hws : Mem.weigh (mems (k + 1) S) = Mem.weigh (mems k S) + (16 + (S k).size) := by rw [mems_succ, Mem.weigh_snoc, sbytes_length]
        have HWS : Hid _ := hws
        clear hws
        generalize S k = sk at *
        generalize Mem.weigh (mems k S) = wk at *
        by_cases hbig : c.size + wk + (16 + sk.size) ≤ 1048576
        · go_wp2
          go_roundg (n - (k + 1))
          case measure => have := HG.out; omega
          case rel => exact ⟨k + 1, by omega, rfl, by go_num, by rw [HWS.out]; go_num, by rw [HWS.out]; omega, rfl⟩
        · go_wp2
          go_ret
          exact ⟨rfl, Below.refl _ _⟩
      · obtain rfl : n = k := by omega
        clear HG
        have hneq := fun W => run_neq_slice_nil_any (P := Try.prog) W 26 9 ao n cap 0 0 Try.underlying26
        generalize hWT : Mem.weigh (mems n S) = WT at *
        have HWT : Hid _ := hWT
        clear hWT
        go_upto_if 51 with fail
        clear hneq
        go_cut [0] (fun s wx => ∃ ao' cap', s = .slice ao' n cap' ∧ StrsIn wx wx.heap.size ao' n S ∧ Below w'.heap.size w' wx)
        case first =>
          cases ao with
          | none =>
            go_wp2
            go_meet
            case rel => exact ⟨_, _, rfl, hS, Below.refl _ _⟩
          | some x =>
            go_wp2_with (at_make; refine wpList_make_full _ rfl _ _ 26 rfl w'.heap.size 9 i0 (.string ByteArray.empty) 1 Try.underlying26 hi hz0 hz1 _ _ _ _ n rfl rfl (by simp) (by simp) ?b2 ?b3 ?b4 ?_)
            case b2 => rw [hz2]; omega
            case b3 => unfold maxLen; omega
            case b4 => exact Nat.le_refl _
            intro w3 hown3 hgrow3
            have hO : OwnS w3 w'.heap.size n (fun t => if t < 0 then S t else ByteArray.empty) := owns_made hown3 _ (fun t ht => by rw [toList_madeCells_one]; simp [ht])
            have hB3 : Below w'.heap.size w' w3 := (Below.refl _ _).grown hgrow3 (Nat.le_refl _) (fun k h => by cases h)
            clear hown3 hgrow3
            go_wp2
            go_loopg [10] n (fun gk i wr => ∃ k : Nat, k ≤ n ∧ gk = n - k ∧ i = .int .i64 k ∧ OwnS wr w'.heap.size n (fun t => if t < k then S t else ByteArray.empty) ∧ Below w'.heap.size w' wr)
            case atStart => exact ⟨0, by omega, rfl, rfl, hO, hB3⟩
            case round =>
              clear hO hB3
              obtain ⟨k, hk, hg, rfl, hO, hB⟩ := hrel
              have HG : Hid _ := hg
              clear hg
              by_cases hlt : k < n
              · rcases hS with rfl | ⟨b, off, hx, hlb, hS⟩
                · omega
                obtain rfl : x = ⟨b, off, none⟩ := by simpa using hx
                have hck := hS.below hB hlb k hlt
                have hcc := hO.cell k hlt
                have hcf := hO.free k hlt
                go_wp2
                go_roundg (n - (k + 1))
                case measure => have := HG.out; omega
                case rel => exact ⟨k + 1, by omega, rfl, by go_num, (hO.store k hlt (S k)).congr (fun t ht => by by_cases e : t = k <;> simp [e]; by_cases e2 : t < k <;> simp [e2] <;> omega), hB.setCell (Nat.le_refl _) _⟩
              · obtain rfl : n = k := by omega
                have hO2 : OwnS wr w'.heap.size n S := hO.congr (fun t ht => by simp [ht])
                have hSI : StrsIn wr wr.heap.size (some ⟨w'.heap.size, 0, none⟩) n S := by
                  by_cases h0 : n = 0
                  · exact .inl h0
                  · exact .inr ⟨_, 0, rfl, World.block_lt_of_cell? _ _ (hO2.cell 0 (by omega)), fun t ht => by rw [Nat.zero_add]; exact hO2.cell t ht⟩
                clear hO hO2
                go_wp2
                go_meet
                case rel => exact ⟨_, _, rfl, hSI, hB⟩
        case rest =>
          obtain ⟨ao', cap', rfl, hSI, hbm⟩ := hcut
          clear hS HNIL
          rename World => wm
          have hzm := hbm.size
          go_upto_if 69 with fail
          go_cut [11] (fun s wx => Buf wx wm.heap.size s (pre isSet) ∧ Below wm.heap.size wm wx)
          case first =>
            cases isSet with
            | true =>
              go_wp2_with (at_builtin; refine wpList_apps_nil _ rfl _ _ rfl wm.heap.size rfl ⟨#[115, 101, 116, 40]⟩ rfl (by decide) (by decide) (Nat.le_refl _) ?_)
              intro v1 w1 hB1 hb1
              go_wp2
              go_meet
              case rel => exact ⟨hB1, hb1⟩
            | false =>
              go_wp2_with (at_builtin; refine wpList_apps_nil _ rfl _ _ rfl wm.heap.size rfl ⟨#[101, 110, 117, 109, 40]⟩ rfl (by decide) (by decide) (Nat.le_refl _) ?_)
              intro v1 w1 hB1 hb1
              go_wp2
              go_meet
              case rel => exact ⟨hB1, hb1⟩
          case rest =>
            obtain ⟨hB2, hb2⟩ := hcut
            have hpl := pre_len isSet
            have hlw := Mem.len_weigh (mems n S)
            rw [mems_length, HWT.out] at hlw
            go_wp2
            go_loopg [11, 12] n (fun gk v i wr => ∃ k : Nat, k ≤ n ∧ gk = n - k ∧ i = .int .i64 k ∧ Buf wr wm.heap.size v (pre isSet ++ Mem.joinL (mems k S)) ∧ Below wm.heap.size wm wr)
            case atStart => exact ⟨0, by omega, rfl, rfl, by simpa [mems, Mem.joinL] using hB2, hb2⟩
            case round =>
              clear hB2 hb2
              obtain ⟨k, hk, hg, rfl, hB, hb⟩ := hrel
              have HG : Hid _ := hg
              clear hg
              have hz := hb.size
              have hjl : (Mem.joinL (mems k S)).length ≤ 2 * WT := by
                have h1 := Mem.joinL_len (mems k S)
                have h2 := weigh_le n S k hk
                rw [HWT.out] at h2
                omega
              by_cases hlt : k < n
              · rcases hSI with rfl | ⟨b, off, rfl, hlb, hSI⟩
                · omega
                have hskz := HSM.out k hlt
                have hstep := join_step k S (pre isSet)
                have HST : Hid _ := hstep
                clear hstep
                go_upto_if 81 with fail
                go_cut [11] (fun s wx => Buf wx wm.heap.size s (pre isSet ++ Mem.joinL (mems k S) ++ (if k = 0 then [] else [44])) ∧ Below wm.heap.size wm wx)
                case first =>
                  by_cases h0 : k = 0
                  · subst h0
                    go_wp2
                    go_meet
                    case rel => exact ⟨by simpa using hB, hb⟩
                  · have h1 : 1 ≤ k := by omega
                    have HE : Hid ((if k = 0 then ([] : List Int) else [44]) = [44]) := if_neg h0
                    clear h0
                    go_wp2_with (at_builtin; refine wpList_app _ rfl _ _ rfl wm.heap.size _ _ rfl hB [44] 1 1 rfl rfl (by simp; omega) (by omega) ?_)
                    intro v1 w1 hB1 hb1
                    go_wp2
                    go_meet
                    case rel => exact ⟨by rw [HE.out]; simpa using hB1, hb.trans hb1⟩
                case rest =>
                  clear hB hb hz
                  obtain ⟨hB, hb⟩ := hcut
                  have hz := hb.size
                  have hsl : (if k = 0 then ([] : List Int) else [44]).length ≤ 1 := by split <;> simp
                  generalize hP : pre isSet ++ Mem.joinL (mems k S) ++ (if k = 0 then ([] : List Int) else [44]) = P at *
                  have hPl : P.length ≤ 2097200 := by rw [← hP]; simp only [List.length_append]; omega
                  clear hP
                  go_wp2_with (at_builtin; refine wpList_app _ rfl _ _ rfl wm.heap.size _ _ rfl hB [39] 1 1 rfl rfl (by omega) (by omega) ?_)
                  intro v1 w1 hB1 hb1
                  have hb1' := hb.trans hb1
                  have hck := hSI.below hb1' hlb k hlt
                  have hB1' : Buf w1 wm.heap.size v1 (P ++ [39] ++ Mem.dbl ((sbytes (S k)).take 0)) := by simpa [Mem.dbl] using hB1
                  clear hB1 hb1 hB hb hz
                  generalize S k = sk at *
                  go_wp2
                  go_loopg [11, 14] sk.size (fun gj v i wr => ∃ j : Nat, j ≤ sk.size ∧ gj = sk.size - j ∧ i = .int .i64 j ∧ Buf wr wm.heap.size v (P ++ [39] ++ Mem.dbl ((sbytes sk).take j)) ∧ Below wm.heap.size wm wr)
                  case atStart => exact ⟨0, by omega, rfl, rfl, hB1', hb1'⟩
                  case round =>
                    clear hB1' hb1' hck
                    obtain ⟨j, hj, hg, rfl, hB, hb⟩ := hrel
                    have HGJ : Hid _ := hg
                    clear hg
                    have hz := hb.size
                    have hdl : (Mem.dbl ((sbytes sk).take j)).length ≤ 2097152 := by
                      have h1 := Mem.dbl_len ((sbytes sk).take j)
                      rw [List.length_take, sbytes_length] at h1
                      omega
                    by_cases hjl2 : j < sk.size
                    · have hts := sbytes_take sk j hjl2
                      have hsn := Mem.dbl_snoc ((sbytes sk).take j) (sk[j].toNat : Int)
                      rw [← hts] at hsn
                      clear hts
                      by_cases c0 : (sk[j].toNat : Int) = 39
                      · have HN : Hid (Mem.dbl ((sbytes sk).take (j + 1)) = Mem.dbl ((sbytes sk).take j) ++ [(sk[j].toNat : Int), (sk[j].toNat : Int)]) := by rw [hsn]; unfold Mem.dblB; rw [if_pos (.inl c0)]; rfl
                        have e0 : ((sk[j].toNat : Int) == 39) = true := beq_iff_eq.2 c0
                        clear c0 hsn
                        go_wp2_with (at_builtin; refine wpList_app _ rfl _ _ rfl wm.heap.size _ _ rfl hB [(sk[j].toNat : Int), (sk[j].toNat : Int)] 2 2 rfl rfl (by simp; omega) (by omega) ?_)
                        intro v2 w2 hB2 hb2
                        go_wp2
                        go_roundg (sk.size - (j + 1))
                        case measure => have := HGJ.out; omega
                        case rel => exact ⟨j + 1, by omega, rfl, by go_num, by rw [HN.out]; simpa using hB2, hb.trans hb2⟩
                      have e0 : ((sk[j].toNat : Int) == 39) = false := beq_eq_false_iff_ne.2 c0
                      by_cases c1 : (sk[j].toNat : Int) = 92
                      · have HN : Hid (Mem.dbl ((sbytes sk).take (j + 1)) = Mem.dbl ((sbytes sk).take j) ++ [(sk[j].toNat : Int), (sk[j].toNat : Int)]) := by rw [hsn]; unfold Mem.dblB; rw [if_pos (.inr c1)]; rfl
                        have e1 : ((sk[j].toNat : Int) == 92) = true := beq_iff_eq.2 c1
                        clear c0 c1 hsn
                        go_wp2_with (at_builtin; refine wpList_app _ rfl _ _ rfl wm.heap.size _ _ rfl hB [(sk[j].toNat : Int), (sk[j].toNat : Int)] 2 2 rfl rfl (by simp; omega) (by omega) ?_)
                        intro v2 w2 hB2 hb2
                        go_wp2
                        go_roundg (sk.size - (j + 1))
                        case measure => have := HGJ.out; omega
                        case rel => exact ⟨j + 1, by omega, rfl, by go_num, by rw [HN.out]; simpa using hB2, hb.trans hb2⟩
                      · have HN : Hid (Mem.dbl ((sbytes sk).take (j + 1)) = Mem.dbl ((sbytes sk).take j) ++ [(sk[j].toNat : Int)]) := by rw [hsn]; unfold Mem.dblB; rw [if_neg (fun h => h.elim c0 c1)]; rfl
                        have e1 : ((sk[j].toNat : Int) == 92) = false := beq_eq_false_iff_ne.2 c1
                        clear c0 c1 hsn
                        go_wp2_with (at_builtin; refine wpList_app _ rfl _ _ rfl wm.heap.size _ _ rfl hB [(sk[j].toNat : Int)] 1 1 rfl rfl (by simp; omega) (by omega) ?_)
                        intro v2 w2 hB2 hb2
                        go_wp2
                        go_roundg (sk.size - (j + 1))
                        case measure => have := HGJ.out; omega
                        case rel => exact ⟨j + 1, by omega, rfl, by go_num, by rw [HN.out]; simpa using hB2, hb.trans hb2⟩
                    · obtain rfl : j = sk.size := by omega
                      have e : (sbytes sk).take sk.size = sbytes sk := List.take_of_length_le (by rw [sbytes_length]; exact Nat.le_refl _)
                      rw [e] at hB hdl
                      clear e HGJ
                      go_wp2_with (at_builtin; refine wpList_app _ rfl _ _ rfl wm.heap.size _ _ rfl hB [39] 1 1 rfl rfl (by simp; omega) (by omega) ?_)
                      intro v2 w2 hB2 hb2
                      go_wp2
                      go_roundg (n - (k + 1))
                      case measure => have := HG.out; omega
                      case rel => exact ⟨k + 1, by omega, rfl, by go_num, by rw [HST.out]; simpa using hB2, hb.trans hb2⟩
              · obtain rfl : n = k := by omega
                clear HG
                go_wp2_with (at_builtin; refine wpList_app _ rfl _ _ rfl wm.heap.size _ _ rfl hB [41] 1 1 rfl rfl (by simp; omega) (by omega) ?_)
                intro v1 w1 hB1 hb1
                have hz1 := hb1.size
                go_wp2_with (at_builtin; refine wpList_apps _ rfl _ _ rfl wm.heap.size _ _ rfl hB1 c rfl (by simp; omega) (by omega) ?_)
                intro v2 w2 hB2 hb2
                have hz2' := hb2.size
                have hB3 : Buf w2 wm.heap.size v2 (pre isSet ++ (Mem.joinL (mems n S) ++ 41 :: sbytes c)) := by simpa using hB2
                have hbel : Below w'.heap.size w' w2 := hbm.trans (((hb.trans hb1).trans hb2).mono (by omega))
                clear hB hB1 hB2 hb hb1 hb2
                go_wp2_with (refine wpList_str _ rfl _ rfl wm.heap.size _ _ rfl hB3 (bytes_all isSet n S c) ?_)
                intro st hst
                have hsl := congrArg List.length hst
                rw [sbytes_length] at hsl
                simp only [List.length_append, List.length_cons, sbytes_length] at hsl
                have hstz : st.size ≤ 1000000000 := by omega
                have HST : Hid _ := hst
                clear hst hsl hB3
                obtain ⟨R, K, hR⟩ : ∃ R K, gm isSet n = (R, K) := ⟨_, _, rfl⟩
                have HR : Hid (gm isSet (mems n S).length = (R, K)) := by rw [mems_length]; exact hR
                go_wp2_with fail
                refine (zzgreat_any st isSet (mems n S) (sbytes c) R K _ hstz (by rw [mems_length]; omega) HST.out HR.out).mono ?_
                rintro e w5 ⟨rfl, rfl⟩
                unfold gm at hR
                by_cases h0 : n = 0
                · rw [if_pos h0] at hR
                  obtain ⟨rfl, rfl⟩ : R = 0 ∧ K = false := by simp at hR; exact ⟨hR.1.symm, hR.2⟩
                  have e0 : ((n : Int) == 0) = true := beq_iff_eq.2 (by omega)
                  clear hR h0 HR
                  go_wp2
                  go_ret
                  exact ⟨rfl, hbel⟩
                rw [if_neg h0] at hR
                have e0 : ((n : Int) == 0) = false := beq_eq_false_iff_ne.2 (by omega)
                cases isSet with
                | false =>
                  obtain ⟨rfl, rfl⟩ : R = (n : Int) ∧ K = true := by simp at hR; exact ⟨hR.1.symm, hR.2⟩
                  clear hR h0 HR
                  go_wp2
                  go_ret
                  exact ⟨ret_bool (by first | rfl | simp), hbel⟩
                | true =>
                  by_cases h64 : 64 ≤ n
                  · obtain ⟨rfl, rfl⟩ : R = 0 ∧ K = false := by simp [h64] at hR; exact ⟨hR.1.symm, hR.2⟩
                    clear hR h0 HR
                    go_wp2
                    go_ret
                    exact ⟨rfl, hbel⟩
                  · obtain ⟨rfl, rfl⟩ : R = ((2 ^ n - 1 : Nat) : Int) ∧ K = true := by simp [h64] at hR; exact ⟨hR.1.symm, hR.2⟩
                    clear hR h0 HR
                    go_wp2_with (go_at_call 9; refine (allOnes_any n _ (by omega)).mono ?_; rintro e w6 ⟨rfl, rfl⟩)
                    go_ret
                    exact ⟨ret_bool (by first | rfl | simp), hbel⟩
  · go_wp2
    go_ret
    exact ⟨rfl, Below.refl _ _⟩

set_option maxHeartbeats 800000 in
set_option maxRecDepth 100000 in
theorem back_walk (ao : Option Addr) (n cap : Nat) (S : Nat → ByteArray) (c : ByteArray) (isSet : Bool) (w : World) (hn : n ≤ 9223372036854775807) (hc : c.size ≤ maxLen) (hnil : ao = none → n = 0) (hS : StrsIn w w.heap.size ao n S) (hSz : ∀ t, t < n → (S t).size ≤ 9223372036854775807) :
    Calls Try.prog 4 #[.slice ao n cap, .string c, .bool isSet] w fun e w' => e = .returned (.bool true) ∧ Below w.heap.size w w' := by
  unfold maxLen at hc
  by_cases h1 : n ≤ 65536
  · by_cases h2 : c.size ≤ 1048576
    · exact back_main ao n cap S c isSet w h1 h2 hnil hS hSz
    · have HSZ : Hid _ := hSz
      clear hSz
      go_enter Try.func4, Try.ntmps4
      go_upto_if 23 with (go_at_call 8; refine (zz8_any ao n cap S c isSet _ hn hS HSZ.out).mono ?_)
      rintro e w' ⟨he, rfl⟩
      have he2 : e = .returned (.bool true) ∨ e = .returned (.bool false) := by rcases he with he | he; exact .inl he.1; exact .inr he
      clear he
      rcases he2 with rfl | rfl
      · go_wp2
        go_ret
        exact ⟨rfl, Below.refl _ _⟩
      · go_wp2
        go_ret
        exact ⟨rfl, Below.refl _ _⟩
  · have HSZ : Hid _ := hSz
    clear hSz
    go_enter Try.func4, Try.ntmps4
    go_upto_if 23 with (go_at_call 8; refine (zz8_any ao n cap S c isSet _ hn hS HSZ.out).mono ?_)
    rintro e w' ⟨he, rfl⟩
    have he2 : e = .returned (.bool true) ∨ e = .returned (.bool false) := by rcases he with he | he; exact .inl he.1; exact .inr he
    clear he
    rcases he2 with rfl | rfl
    · go_wp2
      go_ret
      exact ⟨rfl, Below.refl _ _⟩
    · go_wp2
      go_ret
      exact ⟨rfl, Below.refl _ _⟩
end Go.Proofs.Qxb6600799a
