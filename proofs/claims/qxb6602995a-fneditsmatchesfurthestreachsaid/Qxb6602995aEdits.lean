/- The walk of 'edits': it answers Lev.lev of the two texts' characters. -/
import Derived.Test.Qxb6602995aBase
import Derived.Test.Qxb6602995aLev
namespace Go.Proofs.Qxb6602995a
open Go.RowKit

/-- How many characters '[]rune(s)' has, and which. -/
def rlen (s : ByteArray) : Nat := (Conv.runesFrom s s.size 0 #[]).size
def rn (s : ByteArray) (k : Nat) : Int := match (Conv.runesFrom s s.size 0 #[])[k]? with
  | some (.int _ z) => z
  | _ => 0

theorem runesFrom_ints (s : ByteArray) : ∀ (bound i : Nat) (acc : Array Value), (∀ j, j < acc.size → ∃ z, acc[j]? = some (.int .i32 z)) →
    ∀ j, j < (Conv.runesFrom s bound i acc).size → ∃ z, (Conv.runesFrom s bound i acc)[j]? = some (.int .i32 z) := by
  intro bound
  induction bound with
  | zero => intro i acc h; simpa [Conv.runesFrom] using h
  | succ n ih =>
    intro i acc h
    rw [Conv.runesFrom]
    split
    · refine ih _ _ ?_
      intro j hj
      rw [Array.getElem?_push]
      split
      · exact ⟨_, rfl⟩
      · refine h j ?_
        simp at hj
        omega
    · exact h

theorem rn_at (s : ByteArray) (k : Nat) (h : k < rlen s) : (Conv.runesFrom s s.size 0 #[])[k]? = some (.int .i32 (rn s k)) := by
  obtain ⟨z, hz⟩ := runesFrom_ints s s.size 0 #[] (fun j hj => by simp at hj) k h
  rw [hz]
  simp [rn, hz]

theorem rlen_le (s : ByteArray) : rlen s ≤ s.size := by
  have := size_runesFrom s s.size 0 #[]
  simpa [rlen] using this

/-- '[]rune(s)'. -/
theorem wpList_runes (w : World) {ops : Array Oper} {rest : List Oper} {o : Oper} {a : Act} {Q : Exit → Act → World → Prop}
    (hg : o.guard = none) (x : Operand) (hop : o.op = Op.convert 9 43 x) (s : ByteArray) (hx : a.eval x = .string s) (hs : s.size ≤ 70368744177664)
    (hK : ∀ w' cap, Row .i32 w' w.heap.size 0 (rlen s) (rn s) → Below w.heap.size w w' → w'.heap.size = w.heap.size + 1 → wpList Try.prog ops Q rest (a.put o.dst (.slice (some ⟨w.heap.size, 0, none⟩) (rlen s) cap)) w') :
    wpList Try.prog ops Q (o :: rest) a w := by
  refine wpList_plain hg fun K hK' => ?_
  have hrun := run_runes_of_string (P := Try.prog) w 9 43 21 s Try.underlying9 Try.underlying43 Try.underlying21 (Nat.le_trans (rlen_le s) hs)
  unfold Oper.wp
  simp [execOp, hop, hx, hrun, Result.andThen]
  refine hK' _ _ (hK _ _ ?_ ?_ ?_)
  · intro t ht
    rw [Nat.zero_add]
    have e := World.cell?_alloc_new w.drew (Conv.runesFrom s s.size 0 #[] ++ Array.replicate (grownCap w (Conv.runesFrom s s.size 0 #[]).size 0 21 - (Conv.runesFrom s s.size 0 #[]).size) (.int .i32 0)) 21 t
    refine e.trans ?_
    rw [Array.getElem?_append_left ht]
    exact rn_at s t ht
  · exact ((Below.refl _ _).drew).alloc (Nat.le_refl _) _
  · simp

theorem min_val (L00 L10 L01 : Nat) : (if (L00 : Int) < if L10 < L01 then (L10 : Int) + 1 else (L01 : Int) + 1 then (L00 : Int) else if L10 < L01 then (L10 : Int) + 1 else (L01 : Int) + 1) = ((min (min (L01 + 1) (L10 + 1)) (L00 + 0) : Nat) : Int) := by
  split <;> split at * <;> omega

theorem min_val' (L00 L10 L01 : Nat) : (if (L00 : Int) + 1 < if L10 < L01 then (L10 : Int) + 1 else (L01 : Int) + 1 then (L00 : Int) + 1 else if L10 < L01 then (L10 : Int) + 1 else (L01 : Int) + 1) = ((min (min (L01 + 1) (L10 + 1)) (L00 + 1) : Nat) : Int) := by
  split <;> split at * <;> omega

theorem step_val {f g : Nat → Nat} {j c : Nat} {v : Int} (e : f (j + 1) = c) (hv : v = (c : Int)) (t : Nat) :
    (if t = j + 1 then v else if t ≤ j then (f t : Int) else (g t : Int)) = if t ≤ j + 1 then (f t : Int) else (g t : Int) := by
  by_cases h : t = j + 1
  · subst h
    rw [if_pos rfl, if_pos (Nat.le_refl _), e, hv]
  · rw [if_neg h]
    by_cases h2 : t ≤ j
    · rw [if_pos h2, if_pos (by omega)]
    · rw [if_neg h2, if_neg (by omega)]

set_option maxHeartbeats 400000 in
theorem edits_any (a b : ByteArray) (w : World) (ha : a.size ≤ 1048576) (hb : b.size ≤ 1048576) :
    Calls Try.prog 41 #[.string a, .string b] w fun e w' => e = .returned (.int .i64 (Lev.lev (rn a) (rn b) (rlen a) (rlen b))) ∧ Below w.heap.size w w' := by
  obtain ⟨i0, hi, hz0, hz1, hz2⟩ := info_parts Try.info3
  have hla := rlen_le a
  have hlb := rlen_le b
  go_enter Try.func41, Try.ntmps41
  go_wp2_with (refine wpList_runes _ rfl _ rfl a rfl (by omega) ?_)
  intro w1 c1 hr1 hb1 hs1
  go_wp2_with (refine wpList_runes _ rfl _ rfl b rfl (by omega) ?_)
  intro w2 c2 hr2 hb2 hs2
  go_wp2_with (at_make; refine wpList_make_full _ rfl _ _ 49 rfl w.heap.size 3 i0 (.int .i64 0) 1 Try.underlying49 hi hz0 hz1 _ _ _ _ (rlen b + 1) rfl rfl (by simp) (by simp) ?b2 ?b3 ?b4 ?_)
  case b2 => rw [hz2]; omega
  case b3 => unfold maxLen; omega
  case b4 => have := hb1.size; have := hb2.size; omega
  intro w3 hown3 hgrow3
  have hO : Own .i64 w3 (w.heap.size + 1 + 1) (rlen b + 1) (fun t => if t < 0 then (t : Int) else 0) := own_made hown3 _ (fun t ht => by rw [toList_madeCells_one]; simp [ht])
  have hB3 : Below (w.heap.size + 1 + 1) w2 w3 := (Below.refl _ _).grown hgrow3 (by omega) (fun k h => by cases h)
  clear hown3 hgrow3
  go_wp2
  go_loopw [23] (fun i wr => ∃ k : Nat, k ≤ rlen b + 1 ∧ i = .int .i64 k ∧ Own .i64 wr (w.heap.size + 1 + 1) (rlen b + 1) (fun t => if t < k then (t : Int) else 0) ∧ Below (w.heap.size + 1 + 1) w2 wr)
    (fun i _ => rlen b + 1 - (intOf i).toNat)
  case atStart => exact ⟨0, Nat.zero_le _, rfl, hO, hB3⟩
  case round =>
    obtain ⟨k, hk, rfl, hO, hB⟩ := hrel
    by_cases hlt : k < rlen b + 1
    · have hc := hO.cell k hlt
      have hf := hO.free k hlt
      go_wp2
      go_roundw
      case rel => exact ⟨k + 1, by omega, by go_num, (hO.store k hlt k).congr (fun t ht => by by_cases e : t = k <;> simp [e]; by_cases e2 : t < k <;> simp [e2] <;> omega), hB.setCell (Nat.le_refl _) _⟩
      case measure => simp [intOf]; omega
    · obtain rfl : k = rlen b + 1 := by omega
      have hO2 : Own .i64 wr (w.heap.size + 1 + 1) (rlen b + 1) (fun t => (Lev.lev (rn a) (rn b) 0 t : Int)) := hO.congr (fun t ht => by simp [ht, Lev.lev_zero])
      clear hO
      go_wp2
      go_loopw [33] (fun s wr => ∃ i : Nat, i ≤ rlen a ∧ s = .int .i64 i ∧ Own .i64 wr (w.heap.size + 1 + 1) (rlen b + 1) (fun t => (Lev.lev (rn a) (rn b) i t : Int)) ∧ Below (w.heap.size + 1 + 1) w2 wr)
        (fun s _ => rlen a - (intOf s).toNat)
      case atStart => exact ⟨0, Nat.zero_le _, rfl, hO2, hB⟩
      case round =>
        clear hO2 hB
        obtain ⟨i, hia, rfl, hO, hB⟩ := hrel
        by_cases hlt2 : i < rlen a
        · have hc := hO.cell 0 (by omega)
          have hf := hO.free 0 (by omega)
          go_wp2
          go_loopw [45, 10] (fun s d wr => ∃ j : Nat, j ≤ rlen b ∧ s = .int .i64 j ∧ d = .int .i64 (Lev.lev (rn a) (rn b) i j : Int) ∧
              Own .i64 wr (w.heap.size + 1 + 1) (rlen b + 1) (fun t => if t ≤ j then (Lev.lev (rn a) (rn b) (i + 1) t : Int) else (Lev.lev (rn a) (rn b) i t : Int)) ∧ Below (w.heap.size + 1 + 1) w2 wr)
            (fun s _ _ => rlen b - (intOf s).toNat)
          case atStart => exact ⟨0, Nat.zero_le _, rfl, rfl, (hO.store 0 (by omega) _).congr (fun t ht => by by_cases e : t = 0 <;> simp [e, Lev.lev_zero_right]), hB.setCell (Nat.le_refl _) _⟩
          case round =>
            clear hO hB hc hf
            obtain ⟨j, hj, rfl, rfl, hO, hB⟩ := hrel
            by_cases hlt3 : j < rlen b
            · have hx : wr.cell? ⟨w.heap.size, i, none⟩ = some (.int .i32 (rn a i)) := by
                have h := ((hr1.below hb2 (by omega)).below hB (by omega)) i hlt2
                rwa [Nat.zero_add] at h
              have hy : wr.cell? ⟨w.heap.size + 1, j, none⟩ = some (.int .i32 (rn b j)) := by
                have h := (hr2.below hB (by omega)) j hlt3
                rwa [Nat.zero_add] at h
              have hc0 := hO.cell j (by omega)
              have hc1 := hO.cell (j + 1) (by omega)
              have hf1 := hO.free (j + 1) (by omega)
              rw [if_pos (Nat.le_refl _)] at hc0
              rw [if_neg (by omega)] at hc1
              have l1 := Lev.lev_le_max (rn a) (rn b) i j
              have l2 := Lev.lev_le_max (rn a) (rn b) (i + 1) j
              have l3 := Lev.lev_le_max (rn a) (rn b) i (j + 1)
              have hnew := Lev.lev_succ (rn a) (rn b) i j
              have e1 : Hid _ := hnew
              clear hnew
              generalize h00 : Lev.lev (rn a) (rn b) i j = L00 at *
              generalize h10 : Lev.lev (rn a) (rn b) (i + 1) j = L10 at *
              generalize h01 : Lev.lev (rn a) (rn b) i (j + 1) = L01 at *
              have H00 : Hid _ := h00
              have H01 : Hid _ := h01
              have H10 : Hid _ := h10
              clear h00 h01 h10
              go_wp2
              go_quiet (fail)
              by_cases hxy : rn a i = rn b j
              · have hbb : (rn a i != rn b j) = false := by simp [hxy]
                have hxy2 : Hid _ := hxy
                clear hxy
                go_wp2
                go_region
                go_wp2
                go_roundw
                case rel => exact ⟨j + 1, by omega, by go_num, by rw [H01.out], (((hO.drewN _).store (j + 1) (by omega) _).congr (fun t ht => step_val e1.out (by rw [if_pos hxy2.out]; exact min_val L00 L10 L01) t)), (below_drewN hB _).setCell (Nat.le_refl _) _⟩
                case measure => simp [intOf]; omega
              · have hbb : (rn a i != rn b j) = true := by simp [hxy]
                have hxy2 : Hid _ := hxy
                clear hxy
                go_wp2
                go_region
                go_wp2
                go_roundw
                case rel => exact ⟨j + 1, by omega, by go_num, by rw [H01.out], (((hO.drewN _).store (j + 1) (by omega) _).congr (fun t ht => step_val e1.out (by rw [if_neg hxy2.out]; exact min_val' L00 L10 L01) t)), (below_drewN hB _).setCell (Nat.le_refl _) _⟩
                case measure => simp [intOf]; omega
            · obtain rfl : j = rlen b := by omega
              go_wp2
              go_roundw
              case rel => exact ⟨i + 1, by omega, by go_num, hO.congr (fun t ht => by rw [if_pos (by omega)]), hB⟩
              case measure => simp [intOf]; omega
        · obtain rfl : i = rlen a := by omega
          have hcm := hO.cell (rlen b) (by omega)
          go_wp2
          go_ret
          exact ⟨rfl, (hb1.trans (hb2.mono (by omega))).trans (hB.mono (by omega))⟩
end Go.Proofs.Qxb6602995a
