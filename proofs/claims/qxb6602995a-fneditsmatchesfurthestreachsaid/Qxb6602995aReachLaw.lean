/- The walk of the law 'FnEditsMatchesFurthestReach'. -/
import Derived.Test.Qxb6602995aSymm
import Derived.Test.Qxb6602995aReachWalk
namespace Go.Proofs.Qxb6602995a
open Go.RowKit

theorem zz29_any (a b : ByteArray) (w : World) (ha : a.size ≤ maxLen) (hb : b.size ≤ maxLen) :
    Calls Try.prog 29 #[.string a, .string b] w fun e w' => e = .returned (.bool (zz2 a.size b.size)) ∧ w' = w := by
  unfold maxLen at ha hb
  by_cases h : a.size + b.size ≤ 1048576
  · rw [show zz2 a.size b.size = true from decide_eq_true h]
    go_enter Try.func29, Try.ntmps29
    go_wp2
    go_ret
    exact ⟨rfl, rfl⟩
  · rw [show zz2 a.size b.size = false from decide_eq_false h]
    by_cases h1 : a.size ≤ 1048576
    · by_cases h2 : b.size ≤ 1048576
      · go_enter Try.func29, Try.ntmps29
        go_wp2
        go_ret
        exact ⟨rfl, rfl⟩
      · go_enter Try.func29, Try.ntmps29
        go_wp2
        go_ret
        exact ⟨rfl, rfl⟩
    · go_enter Try.func29, Try.ntmps29
      go_wp2
      go_ret
      exact ⟨rfl, rfl⟩

set_option maxHeartbeats 800000 in
theorem reach_walk (a b : ByteArray) (w0 : a.size ≤ maxLen) (w1 : b.size ≤ maxLen) (w : World) :
    Calls Try.prog 9 #[.string a, .string b] w fun e w' => e = .returned (.bool true) ∧ Below w.heap.size w w' := by
  cases hz : zz2 a.size b.size with
  | false =>
    go_enter Try.func9, Try.ntmps9
    go_wp2_with (go_at_call 29; refine (zz29_any a b _ w0 w1).mono ?_; rintro e w' ⟨rfl, rfl⟩)
    go_ret
    exact ⟨rfl, Below.refl _ _⟩
  | true =>
    by_cases h1 : a.size ≤ 4096
    · by_cases h2 : b.size ≤ 4096
      · have hla := rlen_le a
        have hlb := rlen_le b
        go_enter Try.func9, Try.ntmps9
        go_wp2_with (go_at_call 29; refine (zz29_any a b _ w0 w1).mono ?_; rintro e w' ⟨rfl, rfl⟩)
        refine (zzedits_any a b _ (by omega) (by omega)).mono ?_
        rintro e w1 ⟨rfl, hb1⟩
        generalize hE : Lev.lev (rn a) (rn b) (rlen a) (rlen b) = E at *
        have HE : Hid _ := hE
        clear hE
        go_wp2_with (refine wpList_runes _ rfl _ rfl a rfl (by omega) ?_)
        intro w2 c2 hr2 hb2 hs2
        go_wp2_with (refine wpList_runes _ rfl _ rfl b rfl (by omega) ?_)
        intro w3 c3 hr3 hb3 hs3
        have hx := hr2.below hb3 (by omega)
        go_wp2_with fail
        refine (furthestReach_any (rn a) (rn b) (rlen a) (rlen b) _ c2 _ c3 _ (by omega) (by omega) hx hr3 (by omega) (by omega)).mono ?_
        rintro e w4 ⟨rfl, hb4⟩
        rw [HE.out]
        go_wp2
        go_ret
        exact ⟨rfl, ((hb1.trans (hb2.mono hb1.size)).trans (hb3.mono (by have := hb1.size; omega))).trans (hb4.mono (by have := hb1.size; omega))⟩
      · go_enter Try.func9, Try.ntmps9
        go_wp2_with (go_at_call 29; refine (zz29_any a b _ w0 w1).mono ?_; rintro e w' ⟨rfl, rfl⟩)
        go_ret
        exact ⟨rfl, Below.refl _ _⟩
    · go_enter Try.func9, Try.ntmps9
      go_wp2_with (go_at_call 29; refine (zz29_any a b _ w0 w1).mono ?_; rintro e w' ⟨rfl, rfl⟩)
      go_ret
      exact ⟨rfl, Below.refl _ _⟩
end Go.Proofs.Qxb6602995a
