/- The walk of the law 'FnScanNumberReadsNothingPastItsEnd'. -/
import Derived.Test.Qxb6602995aStrEnd
import Derived.Test.Qxb6602995aNumWalk
import Derived.Test.Qxb6602995aNumLaw
namespace Go.Proofs.Qxb6602995a
open Go.RowKit

theorem zzscanNumber_any (g : Nat → Int) (n E : Nat) (K : Bool) (b off cap i : Nat) (w : World) (hn : n ≤ 1048576) (hi : i < n) (hrow : Row .u8 w b off n g) (hR : Num.scanN g n i = (E, K)) :
    Calls Try.prog 22 #[.slice (some ⟨b, off, none⟩) n cap, .int .i64 i] w fun e w' => e = .returned (.tuple #[.int .i64 E, .bool K]) ∧ w' = w := by
  have HR : Hid _ := hR
  clear hR
  go_enter Try.func22, Try.ntmps22
  go_wp2_with (go_at_call 38; refine (scanNumber_any g n E K b off cap i _ hn hi hrow HR.out).mono ?_; rintro e w' ⟨rfl, rfl⟩)
  go_ret2
  exact ⟨rfl, rfl⟩

theorem zz28_any (a : Option Addr) (n cap : Nat) (i : Int) (w : World) (hn : n ≤ 9223372036854775807) :
    Calls Try.prog 28 #[.slice a n cap, .int .i64 i] w fun e w' => e = .returned (.bool (decide (n ≤ 1048576))) ∧ w' = w := by
  by_cases h : n ≤ 1048576
  · rw [decide_eq_true h]
    go_enter Try.func28, Try.ntmps28
    go_wp2
    go_ret
    exact ⟨rfl, rfl⟩
  · rw [decide_eq_false h]
    go_enter Try.func28, Try.ntmps28
    go_wp2
    go_ret
    exact ⟨rfl, rfl⟩

set_option maxHeartbeats 1600000 in
theorem numEnd_walk (a0 : Option Addr) (len0 cap0 : Nat) (z0 : List Int) (a1 : Int) (w : World) (w0 : RowIn w a0 len0 cap0 z0) (_w1 : (Lit.int .i64 a1).wf = true) :
    Calls Try.prog 8 #[.slice a0 len0 cap0, .int .i64 a1] w fun e w' => e = .returned (.bool true) ∧ Below w.heap.size w w' := by
  have hlen := w0.len
  by_cases hz : len0 ≤ 1048576
  · have ez : decide (len0 ≤ 1048576) = true := decide_eq_true hz
    by_cases h1 : a1 < 0
    · go_enter Try.func8, Try.ntmps8
      go_wp2_with (go_at_call 28; refine (zz28_any _ _ _ _ _ hlen).mono ?_; rintro e w' ⟨rfl, rfl⟩)
      go_ret
      exact ⟨rfl, Below.refl _ _⟩
    by_cases h2 : (len0 : Int) ≤ a1
    · go_enter Try.func8, Try.ntmps8
      go_wp2_with (go_at_call 28; refine (zz28_any _ _ _ _ _ hlen).mono ?_; rintro e w' ⟨rfl, rfl⟩)
      go_ret
      exact ⟨rfl, Below.refl _ _⟩
    obtain ⟨i, rfl⟩ := Int.eq_ofNat_of_zero_le (show 0 ≤ a1 by omega)
    have hi : i < len0 := by omega
    obtain ⟨b, off, rfl, hrow, hb, hcap⟩ := w0.row (by omega)
    generalize hg : (fun t => z0.getD t 0) = g at *
    clear hg w0
    have hc : w.cell? ⟨b, off + i, none⟩ = some (.int .u8 (g i)) := hrow i hi
    by_cases h3 : g i = 45 ∨ Num.digB (g i) = true
    · obtain ⟨E, K, hR⟩ : ∃ E K, Num.scanN g len0 i = (E, K) := ⟨_, _, rfl⟩
      obtain ⟨r1, r2, r3⟩ := Num.reads_no_more hR hi h3
      have HR : Hid _ := hR
      have HR3 : Hid _ := r3
      clear hR r3
      have q : (g i != 45) = false ∨ ((g i != 45) = true ∧ 48 ≤ g i ∧ g i ≤ 57) := by
        by_cases h : g i = 45
        · left; simp [h]
        · right
          refine ⟨by simp [h], ?_⟩
          rcases h3 with h3 | h3
          · exact absurd h3 h
          · exact of_decide_eq_true h3
      clear h3
      rcases q with q | ⟨q, q1, q2⟩
      all_goals
        go_enter Try.func8, Try.ntmps8
        go_wp2_with (go_at_call 28; refine (zz28_any _ _ _ _ _ hlen).mono ?_; rintro e w' ⟨rfl, rfl⟩)
        refine (copyBytes_any b off len0 cap0 g _ hz (by omega) hrow hb).mono ?_
        rintro e w1 ⟨rfl, hO, hB, hs⟩
        go_wp2_with fail
        refine (zzscanNumber_any g len0 E K _ 0 _ i _ hz hi hO.row HR.out).mono ?_
        rintro e w2 ⟨rfl, rfl⟩
        go_wp2_with fail
        refine (zzscanNumber_any g E E K _ 0 _ i _ (by omega) (by omega) (fun t ht => hO.row t (by omega)) HR3.out).mono ?_
        rintro e w2 ⟨rfl, rfl⟩
        go_wp2
        go_ret
        exact ⟨rfl, hB⟩
    · have e3 : (g i != 45) = true := by simp; exact fun h => h3 (.inl h)
      have e4 : g i < 48 ∨ 57 < g i := by
        have : ¬ (48 ≤ g i ∧ g i ≤ 57) := fun h => h3 (.inr (decide_eq_true h))
        omega
      clear h3
      rcases e4 with e4 | e4
      all_goals
        go_enter Try.func8, Try.ntmps8
        go_wp2_with (go_at_call 28; refine (zz28_any _ _ _ _ _ hlen).mono ?_; rintro e w' ⟨rfl, rfl⟩)
        go_ret
        exact ⟨rfl, Below.refl _ _⟩
  · have ez : decide (len0 ≤ 1048576) = false := decide_eq_false hz
    go_enter Try.func8, Try.ntmps8
    go_wp2_with (go_at_call 28; refine (zz28_any _ _ _ _ _ hlen).mono ?_; rintro e w' ⟨rfl, rfl⟩)
    go_ret
    exact ⟨rfl, Below.refl _ _⟩
end Go.Proofs.Qxb6602995a
