/- The walks of slideDiagonal and furthestReach. -/
import Derived.Test.Qxb6602995aEdits
import Derived.Test.Qxb6602995aReach
import Derived.Deep.DeepCutAuto
import Derived.Deep.CutBlock
namespace Go.Proofs.Qxb6602995a
open Go.RowKit

theorem slide_stop {x y : Nat → Int} {n m f i j : Nat} (h : ¬ (i < n ∧ j < m ∧ x i = y j)) : Lev.slide x y n m f i j = i := by
  cases f with
  | zero => rfl
  | succ f => rw [Lev.slide, if_neg h]

set_option maxHeartbeats 1600000 in
set_option maxRecDepth 100000 in
theorem slideDiagonal_any (x y : Nat → Int) (n m bx cx bv cv : Nat) (i j r : Nat) (a k : Int) (w : World) (hn : n ≤ 1048576) (hm : m ≤ 1048576)
    (hx : Row .i32 w bx 0 n x) (hy : Row .i32 w bv 0 m y) (hbx : bx < w.heap.size) (hby : bv < w.heap.size)
    (ha : a = i) (hk : (j : Int) = i + k) (hi : i ≤ n) (hj : j ≤ m) (hr : Lev.slide x y n m n i j = r) :
    Calls Try.prog 42 #[.slice (some ⟨bx, 0, none⟩) n cx, .slice (some ⟨bv, 0, none⟩) m cv, .int .i64 a, .int .i64 k] w fun e w' => e = .returned (.int .i64 r) ∧ Below w.heap.size w w' := by
  subst ha
  have HR : Hid _ := hr
  have HK : Hid _ := hk
  have k1 : k ≤ 1048576 := by omega
  have k2 : -1048576 ≤ k := by omega
  clear hr hk
  go_enter Try.func42, Try.ntmps42
  go_wp2
  go_loopw [2] (fun s wr => ∃ p q F : Nat, p ≤ n ∧ q ≤ m ∧ n ≤ p + F ∧ s = .int .i64 p ∧ Hid ((q : Int) = p + k) ∧ Hid (Lev.slide x y n m F p q = r) ∧ Below w.heap.size w wr)
    (fun s _ => n - (intOf s).toNat)
  case atStart => exact ⟨i, j, n, hi, hj, by omega, rfl, HK, HR, Below.refl _ _⟩
  case round =>
    clear HR
    clear HK
    obtain ⟨p, q, F, hi', hj', hF, rfl, HK, H, hB⟩ := hrel
    have hk' := HK.out
    by_cases h1 : p < n
    · by_cases h2 : q < m
      · have hcx : wr.cell? ⟨bx, p, none⟩ = some (.int .i32 (x (p))) := by
          have h := hx.below hB hbx (p) h1
          rwa [Nat.zero_add] at h
        have hcy : wr.cell? ⟨bv, ((p : Int) + k).toNat, none⟩ = some (.int .i32 (y (q))) := by
          have h := hy.below hB hby (q) h2
          rw [Nat.zero_add] at h
          rw [show ((p : Int) + k).toNat = q by omega]
          exact h
        have q1 : (p : Int) < n := by omega
        have q2 : (p : Int) + k < m := by omega
        have q3 : 0 ≤ (p : Int) + k := by omega
        clear hk'
        obtain ⟨F, rfl⟩ : ∃ f, F = f + 1 := ⟨F - 1, by omega⟩
        by_cases h3 : x (p) = y (q)
        · have H2 := H.out
          rw [Lev.slide, if_pos ⟨h1, h2, h3⟩] at H2
          have H3 : Hid _ := H2
          have e : (x (p) == y (q)) = true := beq_iff_eq.2 h3
          clear H H2 h3
          go_wp2
          go_quiet (fail)
          go_wp2
          go_roundw
          case rel => exact ⟨p + 1, q + 1, F, by omega, by omega, by omega, by go_num, (by have := HK.out; show ((q + 1 : Nat) : Int) = ((p + 1 : Nat) : Int) + k; omega), H3, below_drewN hB _⟩
          case measure => simp [intOf]; omega
        · have H2 := H.out
          rw [slide_stop (fun h => h3 h.2.2)] at H2
          subst H2
          have e : (x (p) == y (q)) = false := beq_eq_false_iff_ne.2 h3
          clear H h3
          go_wp2
          go_quiet (fail)
          go_wp2
          go_ret
          exact ⟨rfl, below_drewN hB _⟩
      · have H2 := H.out
        rw [slide_stop (fun h => h2 h.2.1)] at H2
        subst H2
        have q1 : (p : Int) < n := by omega
        have q2 : decide ((p : Int) + k < m) = false := decide_eq_false (by omega)
        clear H
        go_wp2
        go_quiet (fail)
        go_wp2
        go_ret
        exact ⟨rfl, below_drewN hB _⟩
    · have H2 := H.out
      rw [slide_stop (fun h => h1 h.1)] at H2
      subst H2
      have q1 : decide ((p : Int) < n) = false := decide_eq_false (by omega)
      clear H
      go_wp2
      go_quiet (fail)
      go_wp2
      go_ret
      exact ⟨rfl, below_drewN hB _⟩

/-- The two rows that the search keeps, and that nothing else has turned. -/
structure Two (w wr : World) (B pb cb N : Nat) (P C : Nat → Int) : Prop where
  p : Own .i64 wr pb N P
  c : Own .i64 wr cb N C
  ne : pb ≠ cb
  lp : B ≤ pb
  lc : B ≤ cb
  bel : Below B w wr

section
variable {w wr wr' : World} {B pb cb N : Nat} {P C : Nat → Int}
theorem Two.swap (h : Two w wr B pb cb N P C) : Two w wr B cb pb N C P := ⟨h.c, h.p, fun e => h.ne e.symm, h.lc, h.lp, h.bel⟩
theorem Two.storeC (h : Two w wr B pb cb N P C) (j : Nat) (hj : j < N) (v : Int) {C' : Nat → Int} (hC : ∀ t, t < N → (if t = j then v else C t) = C' t) : Two w (wr.setCell ⟨cb, j, none⟩ (.int .i64 v)) B pb cb N P C' :=
  ⟨h.p.other _ (fun e => h.ne e.symm) _, (h.c.store j hj v).congr hC, h.ne, h.lp, h.lc, h.bel.setCell h.lc _⟩
theorem Two.storeP (h : Two w wr B pb cb N P C) (j : Nat) (hj : j < N) (v : Int) {P' : Nat → Int} (hP : ∀ t, t < N → (if t = j then v else P t) = P' t) : Two w (wr.setCell ⟨pb, j, none⟩ (.int .i64 v)) B pb cb N P' C :=
  (h.swap.storeC j hj v hP).swap
theorem Two.lt (h : Two w wr B pb cb N P C) (hN : 0 < N) : pb < wr.heap.size ∧ cb < wr.heap.size := ⟨World.block_lt_of_cell? _ _ (h.p.cell 0 hN), World.block_lt_of_cell? _ _ (h.c.cell 0 hN)⟩
theorem Two.below (h : Two w wr B pb cb N P C) (hN : 0 < N) (hB : B ≤ wr.heap.size) (hb : Below wr.heap.size wr wr') : Two w wr' B pb cb N P C :=
  ⟨h.p.below hb (h.lt hN).1, h.c.below hb (h.lt hN).2, h.ne, h.lp, h.lc, h.bel.trans (hb.mono hB)⟩
theorem Two.congrC (h : Two w wr B pb cb N P C) {C' : Nat → Int} (hC : ∀ t, t < N → C t = C' t) : Two w wr B pb cb N P C' := ⟨h.p, h.c.congr hC, h.ne, h.lp, h.lc, h.bel⟩
end

/-- The test of a substitution's step. -/
def q1 (n m : Nat) (v k : Int) : Bool := decide (0 ≤ v ∧ v < n ∧ v + k < m)

theorem b1_eq (n m t : Nat) (P : Nat → Int) (q : Bool) (h : q1 n m (P t) ((t : Int) - n) = q) : Lev.b1 n m P t = if q = true then P t + 1 else P t := by
  unfold Lev.b1
  cases q with
  | true => rw [if_pos (of_decide_eq_true h), if_pos rfl]
  | false => rw [if_neg (of_decide_eq_false h), if_neg (by simp)]

theorem ok_bounds {x y : Nat → Int} {n m d t : Nat} {v : Int} (h : Lev.Ok x y n m d v t) : -1 ≤ v ∧ v ≤ n := by
  rcases h with h | ⟨i, j, h1, h2, h3, h4, h5⟩ <;> omega

/-- The distance is 0. -/
def zeroB (l : Nat) : Bool := decide (l ≤ 0)

set_option maxHeartbeats 4000000 in
set_option maxRecDepth 100000 in
theorem furthestReach_any (x y : Nat → Int) (n m bx cx bv cv : Nat) (w : World) (hn : n ≤ 65536) (hm : m ≤ 65536)
    (hx : Row .i32 w bx 0 n x) (hy : Row .i32 w bv 0 m y) (hbx : bx < w.heap.size) (hby : bv < w.heap.size) :
    Calls Try.prog 31 #[.slice (some ⟨bx, 0, none⟩) n cx, .slice (some ⟨bv, 0, none⟩) m cv] w fun e w' => e = .returned (.int .i64 (Lev.lev x y n m)) ∧ Below w.heap.size w w' := by
  obtain ⟨i0, hi, hz0, hz1, hz2⟩ := info_parts Try.info3
  go_enter Try.func31, Try.ntmps31
  go_wp2_with (at_make; refine wpList_make_full _ rfl _ _ 49 rfl w.heap.size 3 i0 (.int .i64 0) 1 Try.underlying49 hi hz0 hz1 _ _ _ _ (n + m + 1) rfl rfl (by simp) (by simp) ?b2 ?b3 ?b4 ?_)
  case b2 => rw [hz2]; omega
  case b3 => unfold maxLen; omega
  case b4 => exact Nat.le_refl _
  intro w1 hown1 hgrow1
  go_wp2_with (at_make; refine wpList_make_full _ rfl _ _ 49 rfl w.heap.size 3 i0 (.int .i64 0) 1 Try.underlying49 hi hz0 hz1 _ _ _ _ (n + m + 1) rfl rfl (by simp) (by simp) ?b5 ?b6 ?b7 ?_)
  case b5 => rw [hz2]; omega
  case b6 => unfold maxLen; omega
  case b7 => exact hgrow1.size
  intro w2 hown2 hgrow2
  have hO1 : Own .i64 w1 w.heap.size (n + m + 1) (fun _ => 0) := own_made hown1 _ (fun t ht => by rw [toList_madeCells_one]; simp [ht])
  have hO2 : Own .i64 w2 w1.heap.size (n + m + 1) (fun _ => 0) := own_made hown2 _ (fun t ht => by rw [toList_madeCells_one]; simp [ht])
  have hlt1 : w.heap.size < w1.heap.size := World.block_lt_of_cell? _ _ (hO1.cell 0 (by omega))
  have hb1 : Below w.heap.size w w1 := (Below.refl _ _).grown hgrow1 (Nat.le_refl _) (fun k h => by cases h)
  have hb2 : Below w1.heap.size w1 w2 := (Below.refl _ _).grown hgrow2 (Nat.le_refl _) (fun k h => by cases h)
  have T0 : Two w w2 w.heap.size w.heap.size w1.heap.size (n + m + 1) (fun t => if t < 0 then -1 else 0) (fun _ => 0) :=
    ⟨(hO1.below hb2 hlt1).congr (fun t _ => by simp), hO2, by omega, Nat.le_refl _, by omega, hb1.trans (hb2.mono (by omega))⟩
  clear hown1 hown2 hgrow1 hgrow2 hO1 hO2 hb1 hb2
  generalize w1.heap.size = B1 at *
  generalize hB0 : w.heap.size = B0 at *
  have HB0 : Hid _ := hB0
  clear hB0
  go_wp2
  go_loopg [10] (n + m + 1) (fun g s wr => ∃ k : Nat, k ≤ n + m + 1 ∧ g = n + m + 1 - k ∧ s = .int .i64 k ∧ Two w wr B0 B0 B1 (n + m + 1) (fun t => if t < k then -1 else 0) (fun _ => 0))
  case atStart => exact ⟨0, Nat.zero_le _, rfl, rfl, T0⟩
  case round =>
    clear T0
    obtain ⟨k, hk, hg, rfl, T⟩ := hrel
    by_cases hlt : k < n + m + 1
    · have hc := T.p.cell k hlt
      have hf := T.p.free k hlt
      have hG : Hid _ := hg
      clear hg
      go_wp2
      go_roundg (n + m + 1 - (k + 1))
      case measure => have := hG.out; omega
      case rel => exact ⟨k + 1, by omega, rfl, by go_num, T.storeP k hlt (-1) (fun t ht => by by_cases e : t = k <;> simp [e]; by_cases e2 : t < k <;> simp [e2] <;> omega)⟩
    · obtain rfl : k = n + m + 1 := by omega
      clear hg
      have hTlt := T.lt (by omega)
      have hx1 := hx.below T.bel hbx
      have hy1 := hy.below T.bel hby
      have hstart := Lev.reached x y n m (Lev.start_sound x y n m) (Lev.start_complete x y n m)
      obtain ⟨r0, hr0⟩ : ∃ r0, Lev.slide x y n m n 0 0 = r0 := ⟨_, rfl⟩
      have HR0 : Hid _ := hr0
      have HS : Hid _ := hstart
      clear hr0 hstart
      go_wp2_with fail
      refine (slideDiagonal_any x y n m bx cx bv cv 0 0 r0 0 0 _ (by omega) (by omega) hx1 hy1 (by omega) (by omega) rfl rfl (by omega) (by omega) HR0.out).mono ?_
      rintro e w3 ⟨rfl, hb3⟩
      have T3 := T.below (by omega) (by omega) hb3
      have hcn := T3.p.cell n (by omega)
      have hfn := T3.p.free n (by omega)
      have T4 : Two w (w3.setCell ⟨B0, n, none⟩ (.int .i64 r0)) B0 B0 B1 (n + m + 1) (Lev.startV x y n m) (fun _ => 0) :=
        T3.storeP n (by omega) r0 (fun t ht => by
          unfold Lev.startV
          rw [HR0.out]
          by_cases e : t = n
          · rw [if_pos e, if_pos e]
          · rw [if_neg e, if_neg e, if_pos ht])
      clear T T3 hb3 hx1 hy1
      go_upto_region 10 with fail
      generalize w3.setCell ⟨B0, n, none⟩ (.int .i64 r0) = w4 at *
      have hcn4 := T4.p.cell n (by omega)
      have hcn5 : w4.cell? ⟨B0, n, none⟩ = some (.int .i64 r0) := by
        rw [hcn4]; unfold Lev.startV; rw [if_pos rfl, HR0.out]
      clear hcn4 hcn hfn
      go_cut [55] (fun s wx => s = .bool (zeroB (Lev.lev x y n m)) ∧ w4 = wx)
      case first =>
        as_aux_lemma =>
          have hS := HS.out
          unfold Lev.startV at hS
          by_cases hnm : m = n
          · rw [if_pos hnm, HR0.out] at hS
            have e1 : ((n : Int) == m) = true := beq_iff_eq.2 (by omega)
            by_cases hr : (r0 : Int) = n
            · have e2 : ((r0 : Int) == n) = true := beq_iff_eq.2 hr
              have q : Hid (zeroB (Lev.lev x y n m) = true) := decide_eq_true (hS.1 hr)
              clear hS hr
              clear hnm
              go_wp2
              go_meet
              case rel => exact ⟨congrArg Value.bool q.out.symm, rfl⟩
            · have e2 : ((r0 : Int) == n) = false := beq_eq_false_iff_ne.2 hr
              have q : Hid (zeroB (Lev.lev x y n m) = false) := decide_eq_false (fun h => hr (hS.2 h))
              clear hS hr
              clear hnm
              go_wp2
              go_meet
              case rel => exact ⟨congrArg Value.bool q.out.symm, rfl⟩
          · rw [if_neg hnm] at hS
            have e1 : ((n : Int) == m) = false := beq_eq_false_iff_ne.2 (by omega)
            have q : Hid (zeroB (Lev.lev x y n m) = false) := decide_eq_false (fun h => by have := hS.2 h; omega)
            clear hS hnm
            go_wp2
            go_meet
            case rel => exact ⟨congrArg Value.bool q.out.symm, rfl⟩
      case rest =>
        obtain ⟨rfl, rfl⟩ := hcut
        clear hcn5 HS HR0
        by_cases hz : Lev.lev x y n m ≤ 0
        · have q : zeroB (Lev.lev x y n m) = true := decide_eq_true hz
          rw [q]
          clear q
          go_wp2
          go_ret
          exact ⟨ret_int (by omega), by rw [HB0.out]; exact T4.bel⟩
        · have q : zeroB (Lev.lev x y n m) = false := decide_eq_false hz
          rw [q]
          clear q
          have hpos : 0 < Lev.lev x y n m := by omega
          clear hz
          have hss := Lev.start_sound x y n m
          have hsc := Lev.start_complete x y n m
          have hll := Lev.lev_le_max x y n m
          go_wp2
          go_loopg [8, 9, 11] (n + m) (fun gg s8 s9 s11 wr => ∃ (d pb cb : Nat) (P C : Nat → Int), d ≤ n + m ∧ gg = n + m - d ∧ s8 = .slice (some ⟨pb, 0, none⟩) (n + m + 1) (n + m + 1) ∧ s9 = .slice (some ⟨cb, 0, none⟩) (n + m + 1) (n + m + 1) ∧
              s11 = .int .i64 (d + 1 : Nat) ∧ Two w wr B0 pb cb (n + m + 1) P C ∧ Lev.Sound x y n m d P ∧ Lev.Complete x y n m d P ∧ d < Lev.lev x y n m)
          case atStart => exact ⟨0, B0, B1, _, _, by omega, rfl, rfl, rfl, rfl, T4, hss, hsc, hpos⟩
          case round =>
            clear T4 hss hsc hpos
            obtain ⟨d, pb, cb, P, C, hd, hgg, rfl, rfl, rfl, T, hS, hC, hdl⟩ := hrel
            have HG : Hid _ := hgg
            clear hgg
            have hdn : d + 1 ≤ n + m := by omega
            go_wp2
            go_loopg [12] (n + m + 1) (fun g s wr => ∃ k : Nat, k ≤ n + m + 1 ∧ g = n + m + 1 - k ∧ s = .int .i64 k ∧ Two w wr B0 pb cb (n + m + 1) P (fun t => if t < k then -1 else C t))
            case atStart => exact ⟨0, Nat.zero_le _, rfl, rfl, T.congrC (fun t _ => by simp)⟩
            case round =>
              clear T
              obtain ⟨k, hk, hg, rfl, T⟩ := hrel
              by_cases hlt : k < n + m + 1
              · have hc := T.c.cell k hlt
                have hf := T.c.free k hlt
                have hG : Hid _ := hg
                clear hg
                go_wp2
                go_roundg (n + m + 1 - (k + 1))
                case measure => have := hG.out; omega
                case rel => exact ⟨k + 1, by omega, rfl, by go_num, T.storeC k hlt (-1) (fun t ht => by by_cases e : t = k <;> simp [e]; by_cases e2 : t < k <;> simp [e2] <;> omega)⟩
              · obtain rfl : k = n + m + 1 := by omega
                clear hg
                have T2 : Two w wr B0 pb cb (n + m + 1) P (fun _ => -1) := T.congrC (fun t ht => by simp [ht])
                clear T
                go_upto_if 77 with fail
                go_cut [13] (fun s wx => ∃ L : Nat, L = min (d + 1) n ∧ s = .int .i64 (-(L : Int)) ∧ wr = wx)
                case first =>
                  as_aux_lemma =>
                    by_cases h : n < d + 1
                    · go_wp2
                      go_meet
                      case rel => exact ⟨n, by omega, by go_num, rfl⟩
                    · go_wp2
                      go_meet
                      case rel => exact ⟨d + 1, by omega, by go_num, rfl⟩
                case rest =>
                  obtain ⟨L, hL, rfl, rfl⟩ := hcut
                  have HL : Hid _ := hL
                  have hL1 : L ≤ n := by omega
                  clear hL
                  go_upto_if 82 with fail
                  go_cut [14] (fun s wx => ∃ H : Nat, H = min (d + 1) m ∧ s = .int .i64 H ∧ wr = wx)
                  case first =>
                    as_aux_lemma =>
                      by_cases h : m < d + 1
                      · go_wp2
                        go_meet
                        case rel => exact ⟨m, by omega, rfl, rfl⟩
                      · go_wp2
                        go_meet
                        case rel => exact ⟨d + 1, by omega, by go_num, rfl⟩
                  case rest =>
                    obtain ⟨H, hH, rfl, rfl⟩ := hcut
                    have HH : Hid _ := hH
                    have hH1 : H ≤ m := by omega
                    clear hH
                    go_wp2
                    go_loopg [15] (n + H + 1 - (n - L)) (fun g s wr => ∃ (t : Nat) (kk : Int), n ≤ t + L ∧ t ≤ n + H + 1 ∧ g = n + H + 1 - t ∧ kk = (t : Int) - n ∧ s = .int .i64 kk ∧
                        Two w wr B0 pb cb (n + m + 1) P (fun u => if u < t then Lev.roundV x y n m d P u else -1))
                    case atStart =>
                      exact ⟨n - L, -(L : Int), by omega, by omega, rfl, by omega, rfl, T2.congrC (fun u _ => by
                        by_cases e : u < n - L
                        · rw [if_pos e]; unfold Lev.roundV; rw [if_neg (by have := HL.out; omega)]
                        · rw [if_neg e])⟩
                    case round =>
                      clear T2
                      obtain ⟨t, kk, ht1, ht2, hg, hkk, rfl, T⟩ := hrel
                      have HKK : Hid _ := hkk
                      have HG2 : Hid _ := hg
                      have k1 : -(n : Int) ≤ kk := by omega
                      by_cases ht : t ≤ n + H
                      · have k2 : kk ≤ m := by omega
                        have k3 : kk ≤ H := by omega
                        have htm : t ≤ n + m := by omega
                        have hB0le : B0 ≤ wr.heap.size := Nat.le_trans T.lp (Nat.le_of_lt (T.lt (by omega)).1)
                        have o0 := ok_bounds (hS t htm)
                        have o1 := ok_bounds (Lev.b1_ok x y n m hS htm)
                        have o2 := ok_bounds (Lev.b2_ok x y n m hS htm)
                        have o3 := Lev.b3_ok x y n m hS htm
                        have o3b := ok_bounds o3
                        have O3 : Hid _ := o3
                        have c0 : wr.cell? ⟨pb, (kk + (n : Int)).toNat, none⟩ = some (.int .i64 (P t)) := by rw [show (kk + (n : Int)).toNat = t by omega]; exact T.p.cell t (by omega)
                        have e1 : Hid (∀ q, q1 n m (P t) kk = q → Lev.b1 n m P t = if q = true then P t + 1 else P t) := by subst hkk; exact b1_eq n m t P
                        have e2n : Hid (¬ (1 ≤ t ∧ 0 ≤ P (t - 1) ∧ P (t - 1) + kk ≤ m ∧ Lev.b1 n m P t < P (t - 1)) → Lev.b2 n m P t = Lev.b1 n m P t) := by subst hkk; exact fun h => if_neg h
                        have e2y : Hid (1 ≤ t → 0 ≤ P (t - 1) → P (t - 1) + kk ≤ m → Lev.b1 n m P t < P (t - 1) → Lev.b2 n m P t = P (t - 1)) := by subst hkk; exact fun a b c d => if_pos ⟨a, b, c, d⟩
                        have e3n : Hid (¬ (t + 1 ≤ n + m ∧ 0 ≤ P (t + 1) ∧ P (t + 1) < n ∧ Lev.b2 n m P t < P (t + 1) + 1) → Lev.b3 n m P t = Lev.b2 n m P t) := fun h => if_neg h
                        have e3y : Hid (t + 1 ≤ n + m → 0 ≤ P (t + 1) → P (t + 1) < n → Lev.b2 n m P t < P (t + 1) + 1 → Lev.b3 n m P t = P (t + 1) + 1) := fun a b c d => if_pos ⟨a, b, c, d⟩
                        have e4n : Hid (Lev.b3 n m P t < 0 → Lev.stepV x y n m P t = Lev.b3 n m P t) := fun h => if_neg (by omega)
                        have e4y : Hid (0 ≤ Lev.b3 n m P t → Lev.stepV x y n m P t = (Lev.slide x y n m n (Lev.b3 n m P t).toNat (Lev.b3 n m P t + kk).toNat : Int)) := by subst hkk; exact fun h => if_pos h
                        have eV : Hid (Lev.roundV x y n m d P t = Lev.stepV x y n m P t) := by
                          unfold Lev.roundV
                          rw [if_pos (by have := HL.out; have := HH.out; omega)]
                          rfl
                        generalize Lev.b1 n m P t = β1 at *
                        generalize Lev.b2 n m P t = β2 at *
                        generalize Lev.b3 n m P t = β3 at *
                        generalize Lev.stepV x y n m P t = β4 at *
                        have c1 : 1 ≤ t → wr.cell? ⟨pb, (kk - 1 + (n : Int)).toNat, none⟩ = some (.int .i64 (P (t - 1))) := fun h => by rw [show (kk - 1 + (n : Int)).toNat = t - 1 by omega]; exact T.p.cell (t - 1) (by omega)
                        have c2 : t + 1 ≤ n + m → wr.cell? ⟨pb, (kk + 1 + (n : Int)).toNat, none⟩ = some (.int .i64 (P (t + 1))) := fun h => by rw [show (kk + 1 + (n : Int)).toNat = t + 1 by omega]; exact T.p.cell (t + 1) (by omega)
                        have p1 : 1 ≤ t → -1 ≤ P (t - 1) ∧ P (t - 1) ≤ n := fun h => ok_bounds (hS (t - 1) (by omega))
                        have p2 : t + 1 ≤ n + m → -1 ≤ P (t + 1) ∧ P (t + 1) ≤ n := fun h => ok_bounds (hS (t + 1) h)
                        obtain ⟨v1, hv1⟩ : ∃ v1, P (t - 1) = v1 := ⟨_, rfl⟩
                        obtain ⟨v2, hv2⟩ : ∃ v2, P (t + 1) = v2 := ⟨_, rfl⟩
                        rw [hv1] at c1 p1 e2n e2y
                        rw [hv2] at c2 p2 e3n e3y
                        generalize hv0 : P t = v0 at *
                        clear hv1 hv2 hv0 hg hkk
                        have C1 : Hid _ := c1
                        have C2 : Hid _ := c2
                        have P1 : Hid _ := p1
                        have P2 : Hid _ := p2
                        clear c1 c2 p1 p2 o3
                        obtain ⟨o0a, o0b⟩ := o0
                        obtain ⟨o1a, o1b⟩ := o1
                        obtain ⟨o2a, o2b⟩ := o2
                        obtain ⟨o3a, o3c⟩ := o3b
                        go_upto_region 28 with fail
                        go_cut [109] (fun s wx => s = .bool (q1 n m v0 kk) ∧ wr = wx)
                        case first =>
                          as_aux_lemma =>
                            by_cases h1 : v0 < 0
                            · go_wp2
                              go_meet
                              case rel => exact ⟨congrArg Value.bool (by rw [show q1 n m v0 kk = false from decide_eq_false (by omega)]; try exact decide_eq_false (by omega)), rfl⟩
                            by_cases h2 : (n : Int) ≤ v0
                            · go_wp2
                              go_meet
                              case rel => exact ⟨congrArg Value.bool (by rw [show q1 n m v0 kk = false from decide_eq_false (by omega)]; try exact decide_eq_false (by omega)), rfl⟩
                            by_cases h3 : (m : Int) ≤ v0 + kk
                            · go_wp2
                              go_meet
                              case rel => exact ⟨congrArg Value.bool (by rw [show q1 n m v0 kk = false from decide_eq_false (by omega)]; try exact decide_eq_false (by omega)), rfl⟩
                            · go_wp2
                              go_meet
                              case rel => exact ⟨congrArg Value.bool (by rw [show q1 n m v0 kk = true from decide_eq_true (by omega)]; try exact decide_eq_true (by omega)), rfl⟩
                        case rest =>
                          obtain ⟨rfl, rfl⟩ := hcut
                          go_upto_if 109 with fail
                          go_cut [16] (fun s wx => s = .int .i64 β1 ∧ wr = wx)
                          case first =>
                            as_aux_lemma =>
                              cases hq : q1 n m v0 kk with
                              | true =>
                                have e := e1.out true hq
                                rw [if_pos rfl] at e
                                have E : Hid _ := e
                                clear e hq
                                go_wp2
                                go_meet
                                case rel => exact ⟨by rw [E.out], rfl⟩
                              | false =>
                                have e := e1.out false hq
                                rw [if_neg (by simp)] at e
                                have E : Hid _ := e
                                clear e hq
                                go_wp2
                                go_meet
                                case rel => exact ⟨by rw [E.out], rfl⟩
                          case rest =>
                            obtain ⟨rfl, rfl⟩ := hcut
                            clear e1 c0
                            go_upto_if 116 with fail
                            go_cut [16] (fun s wx => s = .int .i64 β2 ∧ wr = wx)
                            case first =>
                              as_aux_lemma =>
                                by_cases h1 : 1 ≤ t
                                · have d1 := C1.out h1
                                  obtain ⟨d2, d3⟩ := P1.out h1
                                  have d4 : 0 ≤ kk - 1 + (n : Int) := by have := HKK.out; omega
                                  by_cases h2 : v1 < 0
                                  · have E : Hid _ := e2n.out (by omega)
                                    go_wp2
                                    go_meet
                                    case rel => exact ⟨by rw [E.out], rfl⟩
                                  by_cases h3 : (m : Int) < v1 + kk
                                  · have E : Hid _ := e2n.out (by omega)
                                    go_wp2
                                    go_meet
                                    case rel => exact ⟨by rw [E.out], rfl⟩
                                  by_cases h4 : v1 ≤ β1
                                  · have E : Hid _ := e2n.out (by omega)
                                    go_wp2
                                    go_meet
                                    case rel => exact ⟨by rw [E.out], rfl⟩
                                  · have E : Hid _ := e2y.out h1 (by omega) (by omega) (by omega)
                                    go_wp2
                                    go_meet
                                    case rel => exact ⟨by rw [E.out], rfl⟩
                                · have E : Hid _ := e2n.out (by omega)
                                  have d4 : kk - 1 < -(n : Int) := by have := HKK.out; omega
                                  go_wp2
                                  go_meet
                                  case rel => exact ⟨by rw [E.out], rfl⟩
                            case rest =>
                              obtain ⟨rfl, rfl⟩ := hcut
                              clear e2n e2y C1 P1
                              go_upto_if 142 with fail
                              go_cut [16] (fun s wx => s = .int .i64 β3 ∧ wr = wx)
                              case first =>
                                as_aux_lemma =>
                                  by_cases h1 : t + 1 ≤ n + m
                                  · have d1 := C2.out h1
                                    obtain ⟨d2, d3⟩ := P2.out h1
                                    have d4 : kk + 1 ≤ m := by have := HKK.out; omega
                                    by_cases h2 : v2 < 0
                                    · have E : Hid _ := e3n.out (by omega)
                                      go_wp2
                                      go_meet
                                      case rel => exact ⟨by rw [E.out], rfl⟩
                                    by_cases h3 : (n : Int) ≤ v2
                                    · have E : Hid _ := e3n.out (by omega)
                                      go_wp2
                                      go_meet
                                      case rel => exact ⟨by rw [E.out], rfl⟩
                                    by_cases h4 : v2 + 1 ≤ β2
                                    · have E : Hid _ := e3n.out (by omega)
                                      go_wp2
                                      go_meet
                                      case rel => exact ⟨by rw [E.out], rfl⟩
                                    · have E : Hid _ := e3y.out h1 (by omega) (by omega) (by omega)
                                      go_wp2
                                      go_meet
                                      case rel => exact ⟨by rw [E.out], rfl⟩
                                  · have E : Hid _ := e3n.out (by omega)
                                    have d4 : (m : Int) < kk + 1 := by have := HKK.out; omega
                                    go_wp2
                                    go_meet
                                    case rel => exact ⟨by rw [E.out], rfl⟩
                              case rest =>
                                obtain ⟨rfl, rfl⟩ := hcut
                                clear e3n e3y C2 P2
                                go_upto_if 166 with fail
                                go_cut [16] (fun s wx => s = .int .i64 β4 ∧ Two w wx B0 pb cb (n + m + 1) P (fun u => if u < t then Lev.roundV x y n m d P u else -1))
                                case first =>
                                  as_aux_lemma =>
                                    by_cases h1 : β3 < 0
                                    · have E : Hid _ := e4n.out h1
                                      go_wp2
                                      go_meet
                                      case rel => exact ⟨by rw [E.out], T⟩
                                    · have E : Hid _ := e4y.out (by omega)
                                      have hx1 := hx.below T.bel hbx
                                      have hy1 := hy.below T.bel hby
                                      have hij : (β3.toNat : Int) = β3 ∧ ((β3 + kk).toNat : Int) = β3 + kk ∧ β3.toNat ≤ n ∧ (β3 + kk).toNat ≤ m := by
                                        have := HKK.out
                                        rcases O3.out with h0 | ⟨i, j, j1, j2, j3, j4, j5⟩ <;> omega
                                      obtain ⟨r, hr⟩ : ∃ r, Lev.slide x y n m n β3.toNat (β3 + kk).toNat = r := ⟨_, rfl⟩
                                      have HRR : Hid _ := hr
                                      have HIJ : Hid _ := hij
                                      clear hr hij
                                      go_wp2_with fail
                                      refine (slideDiagonal_any x y n m bx cx bv cv β3.toNat (β3 + kk).toNat r β3 kk _ (by omega) (by omega) hx1 hy1 (by omega) (by omega) HIJ.out.1.symm (by have := HIJ.out; omega) HIJ.out.2.2.1 HIJ.out.2.2.2 HRR.out).mono ?_
                                      rintro e w5 ⟨rfl, hb5⟩
                                      go_wp2
                                      go_meet
                                      case rel => exact ⟨by rw [E.out, HRR.out], T.below (by omega) hB0le hb5⟩
                                case rest =>
                                  clear T hB0le
                                  obtain ⟨rfl, T⟩ := hcut
                                  have cc : wc.cell? ⟨cb, (kk + (n : Int)).toNat, none⟩ = some (.int .i64 (-1)) := by
                                    rw [show (kk + (n : Int)).toNat = t by have := HKK.out; omega]
                                    have := T.c.cell t (by omega)
                                    rwa [if_neg (by omega)] at this
                                  have cf : wc.frozen? ⟨cb, (kk + (n : Int)).toNat, none⟩ = false := by
                                    rw [show (kk + (n : Int)).toNat = t by have := HKK.out; omega]
                                    exact T.c.free t (by omega)
                                  go_wp2
                                  go_roundg (n + H + 1 - (t + 1))
                                  case measure => have := HG2.out; omega
                                  case rel =>
                                    refine ⟨t + 1, kk + 1, by omega, by omega, rfl, by have := HKK.out; omega, rfl, ?_⟩
                                    rw [show (kk + (n : Int)).toNat = t by have := HKK.out; omega]
                                    exact T.storeC t (by omega) β4 (fun u hu => by
                                      by_cases e : u = t
                                      · subst e; rw [if_pos rfl, if_pos (by omega), eV.out]
                                      · rw [if_neg e]
                                        by_cases e2 : u < t
                                        · rw [if_pos e2, if_pos (by omega)]
                                        · rw [if_neg e2, if_neg (by omega)])
                      · as_aux_lemma =>
                        clear hg hkk
                        have T5 : Two w wr B0 pb cb (n + m + 1) P (Lev.roundV x y n m d P) := T.congrC (fun u hu => by
                          by_cases e : u < t
                          · rw [if_pos e]
                          · rw [if_neg e]; unfold Lev.roundV; rw [if_neg (by have := HH.out; omega)])
                        clear T
                        have hS2 := Lev.round_sound x y n m hS
                        have hC2 := Lev.round_complete x y n m hS hC
                        have hre := Lev.reached x y n m hS2 hC2
                        have cm := T5.c.cell m (by omega)
                        have kx : (H : Int) < kk := by have := HKK.out; omega
                        by_cases hz : Lev.lev x y n m ≤ d + 1
                        · have e := hre.2 hz
                          rw [e] at cm
                          clear hre e hS2 hC2
                          go_wp2
                          go_ret
                          exact ⟨ret_int (by omega), by rw [HB0.out]; exact T5.bel⟩
                        · have e : (Lev.roundV x y n m d P m == (n : Int)) = false := beq_eq_false_iff_ne.2 (fun h => hz (hre.1 h))
                          clear hre
                          go_wp2
                          go_roundg (n + m - (d + 1))
                          case measure => have := HG.out; omega
                          case rel => exact ⟨d + 1, cb, pb, _, P, by omega, rfl, rfl, rfl, by go_num, T5.swap, hS2, hC2, by omega⟩
end Go.Proofs.Qxb6602995a
