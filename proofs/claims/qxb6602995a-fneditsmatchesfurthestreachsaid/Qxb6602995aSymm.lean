/- The walk of the law 'FnEditsIsSymmetricAndWithinLengthBounds'. -/
import Derived.Test.Qxb6602995aEdits
namespace Go.Proofs.Qxb6602995a
open Go.RowKit

theorem zzedits_any (a b : ByteArray) (w : World) (ha : a.size ≤ 1048576) (hb : b.size ≤ 1048576) :
    Calls Try.prog 30 #[.string a, .string b] w fun e w' => e = .returned (.int .i64 (Lev.lev (rn a) (rn b) (rlen a) (rlen b))) ∧ Below w.heap.size w w' := by
  go_enter Try.func30, Try.ntmps30
  go_wp2_with (go_at_call 41; refine (edits_any a b _ ha hb).mono ?_; rintro e w1 ⟨rfl, hb1⟩)
  go_ret
  exact ⟨rfl, hb1⟩

theorem zzedits_rev (a b : ByteArray) (w : World) (ha : a.size ≤ 1048576) (hb : b.size ≤ 1048576) :
    Calls Try.prog 30 #[.string b, .string a] w fun e w' => e = .returned (.int .i64 (Lev.lev (rn a) (rn b) (rlen a) (rlen b))) ∧ Below w.heap.size w w' := by
  rw [Lev.lev_comm (rn a) (rn b)]
  exact zzedits_any b a w hb ha

/-- The bound that was laid ahead of the laws over two texts. -/
def zz2 (n m : Nat) : Bool := decide (n + m ≤ 1048576)

theorem zz32_any (a b : ByteArray) (w : World) (ha : a.size ≤ maxLen) (hb : b.size ≤ maxLen) :
    Calls Try.prog 32 #[.string a, .string b] w fun e w' => e = .returned (.bool (zz2 a.size b.size)) ∧ w' = w := by
  unfold maxLen at ha hb
  by_cases h : a.size + b.size ≤ 1048576
  · have e : zz2 a.size b.size = true := decide_eq_true h
    rw [e]
    clear e
    go_enter Try.func32, Try.ntmps32
    go_wp2
    go_ret
    exact ⟨rfl, rfl⟩
  · have e : zz2 a.size b.size = false := decide_eq_false h
    rw [e]
    clear e
    by_cases h1 : a.size ≤ 1048576
    · by_cases h2 : b.size ≤ 1048576
      · go_enter Try.func32, Try.ntmps32
        go_wp2
        go_ret
        exact ⟨rfl, rfl⟩
      · go_enter Try.func32, Try.ntmps32
        go_wp2
        go_ret
        exact ⟨rfl, rfl⟩
    · go_enter Try.func32, Try.ntmps32
      go_wp2
      go_ret
      exact ⟨rfl, rfl⟩

set_option maxHeartbeats 400000 in
theorem symm_walk (a b : ByteArray) (w0 : a.size ≤ maxLen) (w1 : b.size ≤ maxLen) (w : World) :
    Calls Try.prog 10 #[.string a, .string b] w fun e w' => e = .returned (.bool true) ∧ Below w.heap.size w w' := by
  cases hz : zz2 a.size b.size with
  | false =>
    go_enter Try.func10, Try.ntmps10
    go_wp2_with (go_at_call 32; refine (zz32_any a b _ w0 w1).mono ?_; rintro e w' ⟨rfl, rfl⟩)
    go_ret
    exact ⟨rfl, Below.refl _ _⟩
  | true =>
    by_cases h1 : a.size ≤ 4096
    · by_cases h2 : b.size ≤ 4096
      · have hla := rlen_le a
        have hlb := rlen_le b
        have hlaw := Lev.law (rn a) (rn b) (rlen a) (rlen b)
        have hup := Lev.lev_le_max (rn a) (rn b) (rlen a) (rlen b)
        have HL : Hid _ := hlaw
        clear hlaw
        by_cases hmn : rlen b < rlen a
        · go_enter Try.func10, Try.ntmps10
          go_wp2_with (first | (go_at_call 32; refine (zz32_any a b _ w0 w1).mono ?_; rintro e w' ⟨rfl, rfl⟩) | (refine wpList_runes _ rfl _ rfl a rfl (by omega) ?_))
          intro w1 c1 hr1 hb1 hs1
          go_wp2_with (refine wpList_runes _ rfl _ rfl b rfl (by omega) ?_)
          intro w2 c2 hr2 hb2 hs2
          go_wp2_with fail
          refine (zzedits_any a b _ (by omega) (by omega)).mono ?_
          rintro e w3 ⟨rfl, hb3⟩
          go_wp2_with fail
          refine (zzedits_rev a b _ (by omega) (by omega)).mono ?_
          rintro e w4 ⟨rfl, hb4⟩
          generalize Lev.lev (rn a) (rn b) (rlen a) (rlen b) = E at *
          have hz3 := hb3.size
          have hr1' : Row .i32 w4 w'.heap.size 0 (rlen a) (rn a) := ((hr1.below hb2 (by omega)).below hb3 (by omega)).below hb4 (by omega)
          have hr2' : Row .i32 w4 (w'.heap.size + 1) 0 (rlen b) (rn b) := (hr2.below hb3 (by omega)).below hb4 (by omega)
          have hbel : Below w'.heap.size w' w4 := ((hb1.trans (hb2.mono (by omega))).trans (hb3.mono (by omega))).trans (hb4.mono (by omega))
          have hz4 := hb4.size
          clear hr1 hr2 hb1 hb2 hb3 hb4
          go_wp2
          go_loopw [12, 13] (fun c i wr => ∃ k : Nat, k ≤ rlen b ∧ i = .int .i64 k ∧ c = .int .i64 (Lev.mis (rn a) (rn b) k : Int) ∧ Below w4.heap.size w4 wr)
            (fun _ i _ => rlen b - (intOf i).toNat)
          case atStart => exact ⟨0, Nat.zero_le _, rfl, rfl, Below.refl _ _⟩
          case round =>
            obtain ⟨k, hk, rfl, rfl, hB⟩ := hrel
            have hm := Lev.mis_le (rn a) (rn b) k
            by_cases hlt : k < rlen b
            · have hx : wr.cell? ⟨w'.heap.size, k, none⟩ = some (.int .i32 (rn a k)) := by
                have h := (hr1'.below hB (by omega)) k (by omega)
                rwa [Nat.zero_add] at h
              have hy : wr.cell? ⟨w'.heap.size + 1, k, none⟩ = some (.int .i32 (rn b k)) := by
                have h := (hr2'.below hB (by omega)) k (by omega)
                rwa [Nat.zero_add] at h
              have hka : k < rlen a := by omega
              have hkb : k < rlen b := by omega
              go_wp2
              go_quiet (fail)
              by_cases hxy : rn a k = rn b k
              · have hbb : (rn a k != rn b k) = false := by simp [hxy]
                have HM : Hid (Lev.mis (rn a) (rn b) (k + 1) = Lev.mis (rn a) (rn b) k) := by rw [Lev.mis, if_pos hxy]; rfl
                clear hxy
                go_wp2
                go_roundw
                case rel => exact ⟨k + 1, by omega, by go_num, by rw [HM.out], below_drewN hB _⟩
                case measure => simp [intOf]; omega
              · have hbb : (rn a k != rn b k) = true := by simp [hxy]
                have HM : Hid (Lev.mis (rn a) (rn b) (k + 1) = Lev.mis (rn a) (rn b) k + 1) := by rw [Lev.mis, if_neg hxy]; rfl
                clear hxy
                go_wp2
                go_roundw
                case rel => exact ⟨k + 1, by omega, by go_num, by rw [HM.out]; go_num, below_drewN hB _⟩
                case measure => simp [intOf]; omega
            · obtain rfl : k = rlen b := by omega
              have HL' := HL.out
              rw [Nat.min_eq_right (by omega)] at HL'
              obtain ⟨g0, g1, g2, g3, g4⟩ := HL'
              clear g0
              generalize Lev.mis (rn a) (rn b) (rlen b) = M at *
              have g5 : ((rlen a : Int) == rlen b) = false := beq_eq_false_iff_ne.2 (by omega)
              have g6 : ((E : Int) == 0) = false := beq_eq_false_iff_ne.2 (by omega)
              clear g4
              go_wp2
              go_ret
              exact ⟨rfl, hbel.trans (hB.mono (by omega))⟩
        · go_enter Try.func10, Try.ntmps10
          go_wp2_with (first | (go_at_call 32; refine (zz32_any a b _ w0 w1).mono ?_; rintro e w' ⟨rfl, rfl⟩) | (refine wpList_runes _ rfl _ rfl a rfl (by omega) ?_))
          intro w1 c1 hr1 hb1 hs1
          go_wp2_with (refine wpList_runes _ rfl _ rfl b rfl (by omega) ?_)
          intro w2 c2 hr2 hb2 hs2
          go_wp2_with fail
          refine (zzedits_any a b _ (by omega) (by omega)).mono ?_
          rintro e w3 ⟨rfl, hb3⟩
          go_wp2_with fail
          refine (zzedits_rev a b _ (by omega) (by omega)).mono ?_
          rintro e w4 ⟨rfl, hb4⟩
          generalize Lev.lev (rn a) (rn b) (rlen a) (rlen b) = E at *
          have hz3 := hb3.size
          have hr1' : Row .i32 w4 w'.heap.size 0 (rlen a) (rn a) := ((hr1.below hb2 (by omega)).below hb3 (by omega)).below hb4 (by omega)
          have hr2' : Row .i32 w4 (w'.heap.size + 1) 0 (rlen b) (rn b) := (hr2.below hb3 (by omega)).below hb4 (by omega)
          have hbel : Below w'.heap.size w' w4 := ((hb1.trans (hb2.mono (by omega))).trans (hb3.mono (by omega))).trans (hb4.mono (by omega))
          have hz4 := hb4.size
          clear hr1 hr2 hb1 hb2 hb3 hb4
          go_wp2
          go_loopw [12, 13] (fun c i wr => ∃ k : Nat, k ≤ rlen a ∧ i = .int .i64 k ∧ c = .int .i64 (Lev.mis (rn a) (rn b) k : Int) ∧ Below w4.heap.size w4 wr)
            (fun _ i _ => rlen a - (intOf i).toNat)
          case atStart => exact ⟨0, Nat.zero_le _, rfl, rfl, Below.refl _ _⟩
          case round =>
            obtain ⟨k, hk, rfl, rfl, hB⟩ := hrel
            have hm := Lev.mis_le (rn a) (rn b) k
            by_cases hlt : k < rlen a
            · have hx : wr.cell? ⟨w'.heap.size, k, none⟩ = some (.int .i32 (rn a k)) := by
                have h := (hr1'.below hB (by omega)) k (by omega)
                rwa [Nat.zero_add] at h
              have hy : wr.cell? ⟨w'.heap.size + 1, k, none⟩ = some (.int .i32 (rn b k)) := by
                have h := (hr2'.below hB (by omega)) k (by omega)
                rwa [Nat.zero_add] at h
              have hka : k < rlen a := by omega
              have hkb : k < rlen b := by omega
              go_wp2
              go_quiet (fail)
              by_cases hxy : rn a k = rn b k
              · have hbb : (rn a k != rn b k) = false := by simp [hxy]
                have HM : Hid (Lev.mis (rn a) (rn b) (k + 1) = Lev.mis (rn a) (rn b) k) := by rw [Lev.mis, if_pos hxy]; rfl
                clear hxy
                go_wp2
                go_roundw
                case rel => exact ⟨k + 1, by omega, by go_num, by rw [HM.out], below_drewN hB _⟩
                case measure => simp [intOf]; omega
              · have hbb : (rn a k != rn b k) = true := by simp [hxy]
                have HM : Hid (Lev.mis (rn a) (rn b) (k + 1) = Lev.mis (rn a) (rn b) k + 1) := by rw [Lev.mis, if_neg hxy]; rfl
                clear hxy
                go_wp2
                go_roundw
                case rel => exact ⟨k + 1, by omega, by go_num, by rw [HM.out]; go_num, below_drewN hB _⟩
                case measure => simp [intOf]; omega
            · obtain rfl : k = rlen a := by omega
              have HL' := HL.out
              rw [Nat.min_eq_left (by omega)] at HL'
              obtain ⟨g0, g1, g2, g3, g4⟩ := HL'
              clear g0
              generalize Lev.mis (rn a) (rn b) (rlen a) = M at *
              by_cases hE : E = 0
              · obtain ⟨e1, e2⟩ := g4.1 hE
                have g5 : ((rlen a : Int) == rlen b) = true := beq_iff_eq.2 (by omega)
                have g6 : ((E : Int) == 0) = true := beq_iff_eq.2 (by omega)
                have g7 : ((M : Int) == 0) = true := beq_iff_eq.2 (by omega)
                have g8 : rlen a ≤ rlen b ∧ rlen b ≤ rlen a ∧ E ≤ 0 ∧ M ≤ 0 := by omega
                clear g4 hE e1 e2
                go_wp2
                go_ret
                exact ⟨rfl, hbel.trans (hB.mono (by omega))⟩
              · have g6 : ((E : Int) == 0) = false := beq_eq_false_iff_ne.2 (by omega)
                by_cases e1 : rlen a = rlen b
                · have g5 : ((rlen a : Int) == rlen b) = true := beq_iff_eq.2 (by omega)
                  have e2 : ¬ M = 0 := fun h => hE (g4.2 ⟨e1, h⟩)
                  have g7 : ((M : Int) == 0) = false := beq_eq_false_iff_ne.2 (by omega)
                  have g8 : rlen a ≤ rlen b ∧ rlen b ≤ rlen a := by omega
                  clear g4 hE e1 e2
                  go_wp2
                  go_ret
                  exact ⟨rfl, hbel.trans (hB.mono (by omega))⟩
                · have g5 : ((rlen a : Int) == rlen b) = false := beq_eq_false_iff_ne.2 (by omega)
                  clear g4 hE e1
                  go_wp2
                  go_ret
                  exact ⟨rfl, hbel.trans (hB.mono (by omega))⟩
      · go_enter Try.func10, Try.ntmps10
        go_wp2_with (go_at_call 32; refine (zz32_any a b _ w0 w1).mono ?_; rintro e w' ⟨rfl, rfl⟩)
        go_ret
        exact ⟨rfl, Below.refl _ _⟩
    · go_enter Try.func10, Try.ntmps10
      go_wp2_with (go_at_call 32; refine (zz32_any a b _ w0 w1).mono ?_; rintro e w' ⟨rfl, rfl⟩)
      go_ret
      exact ⟨rfl, Below.refl _ _⟩
end Go.Proofs.Qxb6602995a
