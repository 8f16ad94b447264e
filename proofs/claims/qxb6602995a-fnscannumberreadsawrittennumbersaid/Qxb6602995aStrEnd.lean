/- The walk of the law 'FnScanStringReadsNothingPastItsEnd'. -/
import Derived.Test.Qxb6602995aScanWalk
namespace Go.Proofs.Qxb6602995a
open Go.RowKit

theorem zzscanString_any (g : Nat → Int) (n E : Nat) (B K : Bool) (b off cap i : Nat) (w : World) (hn : n ≤ 1048576) (hi : i < n) (hrow : Row .u8 w b off n g) (hR : Scan.scanS g n n (i + 1) false = (E, B, K)) :
    Calls Try.prog 14 #[.slice (some ⟨b, off, none⟩) n cap, .int .i64 i] w fun e w' => e = .returned (.tuple #[.int .i64 E, .bool B, .bool K]) ∧ w' = w := by
  have HR : Hid _ := hR
  clear hR
  go_enter Try.func14, Try.ntmps14
  go_wp2_with (go_at_call 34; refine (scanString_any g n E B K b off cap i _ hn hi hrow HR.out).mono ?_; rintro e w' ⟨rfl, rfl⟩)
  go_ret3
  exact ⟨rfl, rfl⟩

theorem zz20_any (a : Option Addr) (n cap : Nat) (i : Int) (w : World) (hn : n ≤ 9223372036854775807) :
    Calls Try.prog 20 #[.slice a n cap, .int .i64 i] w fun e w' => e = .returned (.bool (decide (n ≤ 1048576))) ∧ w' = w := by
  by_cases h : n ≤ 1048576
  · rw [decide_eq_true h]
    go_enter Try.func20, Try.ntmps20
    go_wp2
    go_ret
    exact ⟨rfl, rfl⟩
  · rw [decide_eq_false h]
    go_enter Try.func20, Try.ntmps20
    go_wp2
    go_ret
    exact ⟨rfl, rfl⟩

/-- What is told of a slice of bytes that came in. -/
def RowIn (w : World) (a : Option Addr) (len cap : Nat) (zs : List Int) : Prop :=
  (a = none ∧ len = 0 ∧ cap = 0 ∧ zs = []) ∨
  ∃ x, a = some x ∧ len ≤ cap ∧ cap ≤ maxLen ∧ zs.length = cap ∧ (∀ i, i < zs.length → w.cell? (x.add i) = some (.int .u8 (zs.getD i 0))) ∧ ∀ n ∈ zs, (Lit.int .u8 n).wf = true

theorem RowIn.len {w : World} {a : Option Addr} {len cap : Nat} {zs : List Int} (h : RowIn w a len cap zs) : len ≤ 9223372036854775807 := by
  rcases h with ⟨_, rfl, _, _⟩ | ⟨x, _, h1, h2, _⟩
  · omega
  · unfold maxLen at h2; omega

theorem RowIn.row {w : World} {a : Option Addr} {len cap : Nat} {zs : List Int} (h : RowIn w a len cap zs) (hl : 0 < len) :
    ∃ b off, a = some ⟨b, off, none⟩ ∧ Row .u8 w b off len (fun t => zs.getD t 0) ∧ b < w.heap.size ∧ len ≤ cap := by
  rcases h with ⟨_, rfl, _, _⟩ | ⟨x, rfl, h1, h2, h3, h4, h5⟩
  · omega
  · obtain ⟨b, off, spot⟩ := x
    have hspot : spot = none := by simpa [Addr.add] using World.cell?_spot (h4 0 (by omega))
    subst hspot
    refine ⟨b, off, rfl, fun t ht => by have h := h4 t (by omega); rw [Go.WideShapes.add_plain] at h; exact h, ?_, h1⟩
    exact World.block_lt_of_cell? _ _ (h4 0 (by omega))

set_option maxHeartbeats 1600000 in
theorem strEnd_walk (a0 : Option Addr) (len0 cap0 : Nat) (z0 : List Int) (a1 : Int) (w : World) (w0 : RowIn w a0 len0 cap0 z0) (_w1 : (Lit.int .i64 a1).wf = true) :
    Calls Try.prog 5 #[.slice a0 len0 cap0, .int .i64 a1] w fun e w' => e = .returned (.bool true) ∧ Below w.heap.size w w' := by
  have hlen := w0.len
  by_cases hz : len0 ≤ 1048576
  · have ez : decide (len0 ≤ 1048576) = true := decide_eq_true hz
    by_cases h1 : a1 < 0
    · go_enter Try.func5, Try.ntmps5
      go_wp2_with (go_at_call 20; refine (zz20_any _ _ _ _ _ hlen).mono ?_; rintro e w' ⟨rfl, rfl⟩)
      go_ret
      exact ⟨rfl, Below.refl _ _⟩
    by_cases h2 : (len0 : Int) ≤ a1
    · go_enter Try.func5, Try.ntmps5
      go_wp2_with (go_at_call 20; refine (zz20_any _ _ _ _ _ hlen).mono ?_; rintro e w' ⟨rfl, rfl⟩)
      go_ret
      exact ⟨rfl, Below.refl _ _⟩
    obtain ⟨i, rfl⟩ := Int.eq_ofNat_of_zero_le (show 0 ≤ a1 by omega)
    have hi : i < len0 := by omega
    obtain ⟨b, off, rfl, hrow, hb, hcap⟩ := w0.row (by omega)
    have hc := hrow i hi
    generalize hg : (fun t => z0.getD t 0) = g at *
    clear hg w0
    have hc : w.cell? ⟨b, off + i, none⟩ = some (.int .u8 (g i)) := hrow i hi
    by_cases h3 : g i = 34
    · have e3 : (g i != 34) = false := by simp [h3]
      clear h3
      obtain ⟨E, B, K, hR⟩ : ∃ E B K, Scan.scanS g len0 len0 (i + 1) false = (E, B, K) := ⟨_, _, _, rfl⟩
      obtain ⟨r1, r2, r3, r4⟩ := Scan.reads_no_more g len0 len0 (i + 1) false E B K hR (by omega) (by omega)
      have HR : Hid _ := hR
      have HR4 : Hid _ := r4 E (by omega)
      have HR3 : Hid _ := r3
      clear hR r4 r3
      go_enter Try.func5, Try.ntmps5
      go_wp2_with (go_at_call 20; refine (zz20_any _ _ _ _ _ hlen).mono ?_; rintro e w' ⟨rfl, rfl⟩)
      refine (copyBytes_any b off len0 cap0 g _ hz (by omega) hrow hb).mono ?_
      rintro e w1 ⟨rfl, hO, hB, hs⟩
      go_wp2_with fail
      refine (zzscanString_any g len0 E B K _ 0 _ i _ hz hi hO.row HR.out).mono ?_
      rintro e w2 ⟨rfl, rfl⟩
      cases K with
      | false =>
        go_wp2_with fail
        refine (zzscanString_any g E E B false _ 0 _ i _ (by omega) (by omega) (fun t ht => hO.row t (by omega)) HR4.out).mono ?_
        rintro e w2 ⟨rfl, rfl⟩
        go_wp2
        go_ret
        exact ⟨rfl, hB⟩
      | true =>
        obtain ⟨e, rfl⟩ : ∃ e, E = e + 1 := ⟨E - 1, by omega⟩
        have hce := hO.cell e (by omega)
        have hge : g e = 34 := by simpa using (HR3.out rfl).2
        rw [hge] at hce
        clear hge
        go_wp2_with fail
        refine (zzscanString_any g (e + 1) (e + 1) B true _ 0 _ i _ (by omega) (by omega) (fun t ht => hO.row t (by omega)) HR4.out).mono ?_
        rintro e w2 ⟨rfl, rfl⟩
        go_wp2
        go_ret
        exact ⟨rfl, hB⟩
    · have e3 : (g i != 34) = true := by simp [h3]
      clear h3
      go_enter Try.func5, Try.ntmps5
      go_wp2_with (go_at_call 20; refine (zz20_any _ _ _ _ _ hlen).mono ?_; rintro e w' ⟨rfl, rfl⟩)
      go_ret
      exact ⟨rfl, Below.refl _ _⟩
  · have ez : decide (len0 ≤ 1048576) = false := decide_eq_false hz
    go_enter Try.func5, Try.ntmps5
    go_wp2_with (go_at_call 20; refine (zz20_any _ _ _ _ _ hlen).mono ?_; rintro e w' ⟨rfl, rfl⟩)
    go_ret
    exact ⟨rfl, Below.refl _ _⟩
end Go.Proofs.Qxb6602995a
