/- The walks of appendDecimalUint and appendDecimalInt. -/
import Derived.Test.Qxb6602995aBuf
import Derived.Test.Qxb6602995aWrite
import Derived.Deep.LoopGhost
import Derived.OpenShut
namespace Go.Proofs.Qxb6602995a
open Go.RowKit

/-- Twenty zero bytes. -/
def zeros20 : Array Value := #[.int .u8 0, .int .u8 0, .int .u8 0, .int .u8 0, .int .u8 0, .int .u8 0, .int .u8 0, .int .u8 0, .int .u8 0, .int .u8 0, .int .u8 0, .int .u8 0, .int .u8 0, .int .u8 0, .int .u8 0, .int .u8 0, .int .u8 0, .int .u8 0, .int .u8 0, .int .u8 0]

theorem own_zeros (w : World) (T : TypeId) : Own .u8 (w.alloc (.cells zeros20 T)) w.heap.size 20 (fun _ => 0) := by
  refine ⟨fun t ht => ?_, fun t ht => World.frozen?_alloc_new w _ _ t⟩
  rw [World.cell?_alloc_new]
  have : t = 0 ∨ t = 1 ∨ t = 2 ∨ t = 3 ∨ t = 4 ∨ t = 5 ∨ t = 6 ∨ t = 7 ∨ t = 8 ∨ t = 9 ∨ t = 10 ∨ t = 11 ∨ t = 12 ∨ t = 13 ∨ t = 14 ∨ t = 15 ∨ t = 16 ∨ t = 17 ∨ t = 18 ∨ t = 19 := by omega
  rcases this with rfl | rfl | rfl | rfl | rfl | rfl | rfl | rfl | rfl | rfl | rfl | rfl | rfl | rfl | rfl | rfl | rfl | rfl | rfl | rfl <;> rfl

theorem Try.al48 : Try.prog.arrayLen 48 = 20 := by kernel_rfl
theorem Try.el48 : Try.prog.elem 48 = 5 := by kernel_rfl
theorem Try.und48 : Try.prog.underlying 48 = some (.array (Try.prog.arrayLen 48) (Try.prog.elem 48)) := by kernel_rfl

/-- 'digits[k:]', digits an array of twenty bytes. -/
theorem slice48 (B k : Nat) (hk : k < 20) (W : World) : (Instr.sliceAt 48 (.pointer (some ⟨B, 0, none⟩)) (some (.int .i64 k)) none none).run Try.prog W = .ok (.slice (some ⟨B, k, none⟩) (20 - k) (20 - k)) W := by
  obtain ⟨i0, hi, hz0, hz1, hz2⟩ := info_parts Try.info5
  rw [run_sliceAt_array_l W 48 _ Try.und48 .i64 k (by omega) (by rw [Try.al48]; omega)]
  simp only [Try.al48, Try.el48]
  have e : ¬ (20 = k) := by omega
  simp [sizeOf, typeInfo, hi, hz1, slicedAt, e, Go.WideShapes.add_plain]

theorem pow_step {u k : Nat} (h : u < 10 ^ (k + 1)) : u / 10 < 10 ^ k := by
  rw [Nat.pow_succ] at h
  omega

theorem pow_room {u k : Nat} (h : u < 10 ^ k) (h10 : 10 ≤ u) : 2 ≤ k := by
  rcases Nat.lt_or_ge k 2 with h2 | h2
  · have : k = 0 ∨ k = 1 := by omega
    rcases this with rfl | rfl
    · simp at h; omega
    · simp at h; omega
  · exact h2

theorem pow_one {u k : Nat} (h : u < 10 ^ k) : u = 0 ∨ 1 ≤ k := by
  cases k with
  | zero => simp at h; exact .inl h
  | succ k => exact .inr (by omega)

theorem dec_props (k u : Nat) (f : Nat → Int) (D : List Int) (hD : D = (List.range (20 - k)).map (fun t => (fun t => if t = k then 48 + (u : Int) else f t) (k + t))) (hk : k < 20) (hu : u < 10) (hlead : k + 1 = 20 ∨ 1 ≤ u)
    (hf : ∀ t, k + 1 ≤ t → t < 20 → 48 ≤ f t ∧ f t ≤ 57) : Num.IntT D ∧ Num.Digs D ∧ D ≠ [] ∧ D.length ≤ 20 := by
  have hlen : D.length = 20 - k := by rw [hD]; simp
  have hdg : Num.Digs D := by
    intro c hc
    rw [hD] at hc
    obtain ⟨t, ht, rfl⟩ := List.mem_map.1 hc
    have ht' := List.mem_range.1 ht
    refine decide_eq_true ?_
    by_cases e : k + t = k
    · simp only [if_pos e]; omega
    · simp only [if_neg e]; exact hf (k + t) (by omega) (by omega)
  have hne : D ≠ [] := by intro e; rw [e] at hlen; simp at hlen; omega
  refine ⟨?_, hdg, hne, by omega⟩
  obtain ⟨c, r, hcr⟩ := List.exists_cons_of_ne_nil hne
  have hc : c = 48 + (u : Int) := by
    have h0 : D[0]? = some (48 + (u : Int)) := by rw [hD, List.getElem?_map, List.getElem?_range (by omega)]; simp
    rw [hcr] at h0
    simpa using h0
  rw [hcr] at hdg hlen ⊢
  by_cases hu0 : u = 0
  · have hr : r = [] := by
      have : (c :: r).length = 1 := by omega
      simpa using this
    rw [hr, hc, hu0]
    exact .inl rfl
  · exact .inr ⟨c, r, rfl, hdg c (by simp), by omega, fun d hd => hdg d (by simp [hd])⟩

set_option maxHeartbeats 1600000 in
set_option maxRecDepth 100000 in
theorem appendDecimalUint_any (v : Value) (l : List Int) (base : Nat) (U : Nat) (w : World) (hU : U < 18446744073709551616) (hl : l.length ≤ 1000000) (hB : Buf w base v l) (hbase : base ≤ w.heap.size) :
    Calls Try.prog 27 #[v, .int .u64 U] w fun e w' => ∃ v' D, e = .returned v' ∧ Buf w' base v' (l ++ D) ∧ Below base w w' ∧ Num.IntT D ∧ Num.Digs D ∧ D ≠ [] ∧ D.length ≤ 20 := by
  have HU : Hid _ := hU
  clear hU
  go_enter Try.func27, Try.ntmps27
  go_wp2
  go_loopg [1, 6] U (fun gg s1 s6 wr => ∃ (u k : Nat) (f : Nat → Int), u ≤ gg ∧ 1 ≤ k ∧ k ≤ 20 ∧ s1 = .int .u64 u ∧ s6 = .int .i64 k ∧ Own .u8 wr w.heap.size 20 f ∧ Below w.heap.size w wr ∧ u ≤ 18446744073709551615 ∧ Hid (u < 10 ^ k) ∧ (k = 20 ∨ 1 ≤ u) ∧ (∀ t, k ≤ t → t < 20 → 48 ≤ f t ∧ f t ≤ 57))
  case atStart => exact ⟨U, 20, _, Nat.le_refl _, by omega, by omega, rfl, rfl, own_zeros w _, (Below.refl _ _).alloc (Nat.le_refl _) _, (by have := HU.out; omega), Nat.lt_trans HU.out (by decide), .inl rfl, fun t h1 h2 => by omega⟩
  case round =>
    obtain ⟨u, k, f, hg, hk1, hk2, rfl, rfl, hO, hb, hu, HP, hlead, hf⟩ := hrel
    have hbs := hb.size
    by_cases h10 : 10 ≤ u
    · have hk3 := pow_room HP.out h10
      obtain ⟨k, rfl⟩ : ∃ k', k = k' + 1 := ⟨k - 1, by omega⟩
      have hc := hO.cell k (by omega)
      have hfr := hO.free k (by omega)
      have HF : Hid _ := hf
      clear hf hlead
      go_wp2
      go_roundg (u / 10)
      case measure => omega
      case rel =>
        refine ⟨u / 10, k, _, Nat.le_refl _, by omega, by omega, by go_num, rfl, hO.store k (by omega) _, hb.setCell (Nat.le_refl _) _, by omega, pow_step HP.out, .inr (by omega), fun t h1 h2 => ?_⟩
        by_cases e : t = k
        · simp only [if_pos e]; omega
        · simp only [if_neg e]; exact HF.out t (by omega) h2
    · obtain ⟨k, rfl⟩ : ∃ k', k = k' + 1 := ⟨k - 1, by omega⟩
      have hc := hO.cell k (by omega)
      have hfr := hO.free k (by omega)
      have HF : Hid _ := hf
      have HLD : Hid _ := hlead
      clear hf hlead
      have hO2 : Own .u8 (wr.setCell ⟨w.heap.size, k, none⟩ (.int .u8 (48 + (u : Int)))) w.heap.size 20 (fun t => if t = k then 48 + (u : Int) else f t) := hO.store k (by omega) _
      have hBr : Buf (wr.setCell ⟨w.heap.size, k, none⟩ (.int .u8 (48 + (u : Int)))) base v l := hB.below (hb.setCell (Nat.le_refl _) _) (fun g cap e => by subst e; exact hB.lt)
      have hbW : Below w.heap.size w (wr.setCell ⟨w.heap.size, k, none⟩ (.int .u8 (48 + (u : Int)))) := hb.setCell (Nat.le_refl _) _
      obtain ⟨D, hD⟩ : ∃ D, D = (List.range (20 - k)).map (fun t => (fun t => if t = k then 48 + (u : Int) else f t) (k + t)) := ⟨_, rfl⟩
      have hDl : D.length = 20 - k := by rw [hD]; simp
      have hrow : Row .u8 (wr.setCell ⟨w.heap.size, k, none⟩ (.int .u8 (48 + (u : Int)))) w.heap.size k (20 - k) (fun t => D.getD t 0) := fun t ht => by
        rw [hO2.cell (k + t) (by omega), hD]
        simp [ht]
      have HD : Hid _ := hD
      have HDL : Hid _ := hDl
      clear hD hDl hO hO2
      have hsl := slice48 w.heap.size k (by omega)
      go_wp2_with (at_builtin; refine wpList_appr _ rfl _ _ rfl base _ _ rfl hBr w.heap.size _ k D (20 - k) HDL.out rfl hrow (by omega) (by simp; omega) ?_)
      intro v' w' hB' hb'
      go_wp2
      go_ret
      exact ⟨v', D, rfl, hB', (hbW.mono hbase).trans hb', dec_props k u f D HD.out (by omega) (by omega) HLD.out HF.out⟩

theorem appendDecimalUint_int (v : Value) (l : List Int) (base : Nat) (a : Int) (w : World) (h0 : 0 ≤ a) (h1 : a ≤ 18446744073709551615) (hl : l.length ≤ 1000000) (hB : Buf w base v l) (hbase : base ≤ w.heap.size) :
    Calls Try.prog 27 #[v, .int .u64 a] w fun e w' => ∃ v' D, e = .returned v' ∧ Buf w' base v' (l ++ D) ∧ Below base w w' ∧ Num.IntT D ∧ Num.Digs D ∧ D ≠ [] ∧ D.length ≤ 20 := by
  obtain ⟨U, rfl⟩ := Int.eq_ofNat_of_zero_le h0
  exact appendDecimalUint_any v l base U w (by omega) hl hB hbase

theorem wrap_u64_bounds (x : Int) : 0 ≤ IntKind.u64.wrap x ∧ IntKind.u64.wrap x ≤ 18446744073709551615 := bounds_u64 (wf_wrap .u64 x)

/-- A sign, where the number is below 0. -/
def signL (n : Int) : List Int := if n < 0 then [45] else []

set_option maxHeartbeats 800000 in
theorem appendDecimalInt_any (v : Value) (l : List Int) (base : Nat) (n : Int) (w : World) (h1 : -9223372036854775808 ≤ n) (h2 : n ≤ 9223372036854775807) (hl : l.length ≤ 900000) (hB : Buf w base v l) (hbase : base ≤ w.heap.size) :
    Calls Try.prog 26 #[v, .int .i64 n] w fun e w' => ∃ v' D, e = .returned v' ∧ Buf w' base v' (l ++ (signL n ++ D)) ∧ Below base w w' ∧ Num.IntT D ∧ Num.Digs D ∧ D ≠ [] ∧ D.length ≤ 20 := by
  by_cases hn : n < 0
  · have HS : Hid (signL n = [45]) := if_pos hn
    go_enter Try.func26, Try.ntmps26
    go_wp2_with (at_builtin; refine wpList_app _ rfl _ _ rfl base _ _ rfl hB [45] 1 1 rfl rfl (by omega) hbase ?_)
    intro v1 w1 hB1 hb1
    have hz1 := hb1.size
    go_wp2_with fail
    refine (appendDecimalUint_int v1 (l ++ [45]) base _ _ (wrap_u64_bounds _).1 (wrap_u64_bounds _).2 (by simp; omega) hB1 (by omega)).mono ?_
    rintro e w2 ⟨v2, D, rfl, hB2, hb2, hD⟩
    have hB3 : Buf w2 base v2 (l ++ (signL n ++ D)) := by rw [HS.out]; simpa using hB2
    clear hB2
    go_wp2
    go_ret
    exact ⟨v2, D, rfl, hB3, hb1.trans hb2, hD⟩
  · have HS : Hid (signL n = []) := if_neg hn
    go_enter Try.func26, Try.ntmps26
    go_wp2_with fail
    refine (appendDecimalUint_int v l base n _ (by omega) (by omega) (by omega) hB hbase).mono ?_
    rintro e w2 ⟨v2, D, rfl, hB2, hb2, hD⟩
    have hB3 : Buf w2 base v2 (l ++ (signL n ++ D)) := by rw [HS.out]; simpa using hB2
    clear hB2
    go_wp2
    go_ret
    exact ⟨v2, D, rfl, hB3, hb2, hD⟩
end Go.Proofs.Qxb6602995a
