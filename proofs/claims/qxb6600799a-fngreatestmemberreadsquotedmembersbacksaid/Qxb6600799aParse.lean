/- The walks of the reading side: HasPrefix, CutPrefix, quotedEnd. -/
import Derived.Test.Qxb6600799aBuf
import Derived.Test.Qxb6600799aMem
import Derived.Lib.Strings
namespace Go.Proofs.Qxb6600799a
open Go.RowKit

theorem map_inj : ∀ a b : List UInt8, a.map (fun b => (b.toNat : Int)) = b.map (fun b => (b.toNat : Int)) → a = b := by
  intro a
  induction a with
  | nil => intro b h; cases b with | nil => rfl | cons y b => simp at h
  | cons x a ih =>
    intro b h
    cases b with
    | nil => simp at h
    | cons y b =>
      simp only [List.map_cons, List.cons.injEq] at h
      obtain ⟨h1, h2⟩ := h
      rw [ih b h2, show x = y from UInt8.toNat_inj.1 (by omega)]

theorem sbytes_extract (s : ByteArray) (a : Nat) : sbytes (s.extract a s.size) = (sbytes s).drop a := by
  unfold sbytes
  rw [Lib.extract_data, List.map_take, List.map_drop, List.take_of_length_le]
  simp

theorem pre_yes {s p : ByteArray} {r : List Int} (h : sbytes s = sbytes p ++ r) : p.size ≤ s.size ∧ ((s.extract 0 p.size).toList == p.toList) = true := by
  have hl := congrArg List.length h
  rw [List.length_append, sbytes_length, sbytes_length] at hl
  refine ⟨by omega, beq_iff_eq.2 ?_⟩
  rw [Lib.extract_toList, Lib.toList_data]
  apply map_inj
  rw [List.map_take, List.map_drop]
  show ((sbytes s).drop 0).take (p.size - 0) = sbytes p
  rw [h, List.drop_zero, Nat.sub_zero, ← sbytes_length p]
  exact List.take_left

theorem pre_no {s p : ByteArray} {c d : Int} {r r' : List Int} (hs : sbytes s = c :: r) (hp : sbytes p = d :: r') (hne : c ≠ d) : ((s.extract 0 p.size).toList == p.toList) = false := by
  refine beq_eq_false_iff_ne.2 (fun e => ?_)
  rw [Lib.extract_toList, Lib.toList_data] at e
  have e2 := congrArg (List.map (fun b : UInt8 => (b.toNat : Int))) e
  rw [List.map_take, List.map_drop] at e2
  have e3 : ((sbytes s).drop 0).take (p.size - 0) = sbytes p := e2
  rw [hs, hp, List.drop_zero] at e3
  have hl := congrArg List.length hp
  rw [sbytes_length] at hl
  rw [show p.size - 0 = r'.length + 1 by simp at hl; omega] at e3
  simp at e3
  exact hne e3.1

theorem has15_yes (s p : ByteArray) (r : List Int) (w : World) (_hs : s.size ≤ 1000000000) (h : sbytes s = sbytes p ++ r) :
    Calls Try.prog 15 #[.string s, .string p] w fun e w' => e = .returned (.bool true) ∧ w' = w := by
  obtain ⟨h1, h2⟩ := pre_yes h
  clear h
  go_enter Try.func15, Try.ntmps15
  go_wp2
  go_ret
  exact ⟨ret_bool (by first | rfl | simpa using h2), rfl⟩

theorem has15_no (s p : ByteArray) (c d : Int) (r r' : List Int) (w : World) (_hsz : s.size ≤ 1000000000) (_hpz : p.size ≤ 1000000000) (hs : sbytes s = c :: r) (hp : sbytes p = d :: r') (hne : c ≠ d) :
    Calls Try.prog 15 #[.string s, .string p] w fun e w' => e = .returned (.bool false) ∧ w' = w := by
  have h2 := pre_no hs hp hne
  clear hs hp hne
  by_cases h1 : p.size ≤ s.size
  · go_enter Try.func15, Try.ntmps15
    go_wp2
    go_ret
    exact ⟨ret_bool (by first | rfl | simpa using h2), rfl⟩
  · go_enter Try.func15, Try.ntmps15
    go_wp2
    go_ret
    exact ⟨rfl, rfl⟩

theorem has_yes (s p : ByteArray) (r : List Int) (w : World) (hs : s.size ≤ 1000000000) (h : sbytes s = sbytes p ++ r) :
    Calls Try.prog 13 #[.string s, .string p] w fun e w' => e = .returned (.bool true) ∧ w' = w := by
  have H : Hid _ := h
  clear h
  go_enter Try.func13, Try.ntmps13
  go_wp2_with (go_at_call 15; refine (has15_yes s p r _ hs H.out).mono ?_; rintro e w' ⟨rfl, rfl⟩)
  go_ret
  exact ⟨rfl, rfl⟩

theorem has_no (s p : ByteArray) (c d : Int) (r r' : List Int) (w : World) (hsz : s.size ≤ 1000000000) (hpz : p.size ≤ 1000000000) (hs : sbytes s = c :: r) (hp : sbytes p = d :: r') (hne : c ≠ d) :
    Calls Try.prog 13 #[.string s, .string p] w fun e w' => e = .returned (.bool false) ∧ w' = w := by
  have H : Hid _ := hs
  have H2 : Hid _ := hp
  clear hs hp
  go_enter Try.func13, Try.ntmps13
  go_wp2_with (go_at_call 15; refine (has15_no s p c d r r' _ hsz hpz H.out H2.out hne).mono ?_; rintro e w' ⟨rfl, rfl⟩)
  go_ret
  exact ⟨rfl, rfl⟩

theorem cut_yes (s p : ByteArray) (r : List Int) (w : World) (hs : s.size ≤ 1000000000) (h : sbytes s = sbytes p ++ r) :
    Calls Try.prog 11 #[.string s, .string p] w fun e w' => ∃ t, e = .returned (.tuple #[.string t, .bool true]) ∧ w' = w ∧ sbytes t = r ∧ t.size ≤ s.size := by
  obtain ⟨h1, _⟩ := pre_yes h
  have ht : sbytes (s.extract p.size s.size) = r := by rw [sbytes_extract, h, ← sbytes_length p]; exact List.drop_left
  have ht2 : (s.extract p.size s.size).size ≤ s.size := by simp
  have H : Hid _ := h
  have HT : Hid _ := ht
  have HT2 : Hid _ := ht2
  clear h ht ht2
  go_enter Try.func11, Try.ntmps11
  go_wp2_with (first | (go_at_call 15; refine (has15_yes s p r _ hs H.out).mono ?_; rintro e w' ⟨rfl, rfl⟩) | (go_at_call 14; go_in))
  go_ret2
  exact ⟨_, rfl, rfl, HT.out, HT2.out⟩

theorem cut_no (s p : ByteArray) (c d : Int) (r r' : List Int) (w : World) (hsz : s.size ≤ 1000000000) (hpz : p.size ≤ 1000000000) (hs : sbytes s = c :: r) (hp : sbytes p = d :: r') (hne : c ≠ d) :
    Calls Try.prog 11 #[.string s, .string p] w fun e w' => e = .returned (.tuple #[.string s, .bool false]) ∧ w' = w := by
  have H : Hid _ := hs
  have H2 : Hid _ := hp
  clear hs hp
  go_enter Try.func11, Try.ntmps11
  go_wp2_with (first | (go_at_call 15; refine (has15_no s p c d r r' _ hsz hpz H.out H2.out hne).mono ?_; rintro e w' ⟨rfl, rfl⟩) | (go_at_call 14; go_in))
  go_ret2
  exact ⟨rfl, rfl⟩

/-- The byte at place i, where the bytes from i on are known. -/
theorem byte_at {s : ByteArray} {i : Nat} {c : Int} {L : List Int} (h : (sbytes s).drop i = c :: L) : ∃ hi : i < s.size, (s[i].toNat : Int) = c := by
  have hl : i < (sbytes s).length := by
    rcases Nat.lt_or_ge i (sbytes s).length with h1 | h1
    · exact h1
    · rw [List.drop_eq_nil_of_le h1] at h; cases h
  have hi : i < s.size := by rw [sbytes_length] at hl; exact hl
  refine ⟨hi, ?_⟩
  have e := List.drop_eq_getElem_cons hl
  rw [h] at e
  injection e with e1 _
  rw [e1]
  simp [sbytes]
  rfl

theorem drop_next {s : ByteArray} {i : Nat} {c : Int} {L : List Int} (h : (sbytes s).drop i = c :: L) : (sbytes s).drop (i + 1) = L := by
  rw [← List.drop_drop, h]
  rfl

theorem drop_len {s : ByteArray} {i : Nat} {L : List Int} (h : (sbytes s).drop i = L) : s.size - i = L.length := by
  rw [← h, List.length_drop, sbytes_length]

set_option maxHeartbeats 800000 in
theorem quoted_yes (s : ByteArray) (L0 r : List Int) (E : Nat) (w : World) (hs : s.size ≤ 1000000000) (h : sbytes s = 39 :: L0) (hq : Mem.InQ r L0) (hr : ∀ c t, r = c :: t → c ≠ 39) (hE : E + 1 + r.length = s.size) :
    Calls Try.prog 12 #[.string s] w fun e w' => e = .returned (.int .i64 E) ∧ w' = w := by
  have hd : (sbytes s).drop 1 = L0 := by rw [h]; rfl
  have hsz : 1 ≤ s.size := by have := congrArg List.length h; rw [sbytes_length] at this; simp at this; omega
  have H0 : Hid (sbytes s = sbytes ⟨#[39]⟩ ++ L0) := h
  have HD : Hid _ := hd
  have HR : Hid _ := hr
  have HE : Hid _ := hE
  clear h hd hr hE
  go_enter Try.func12, Try.ntmps12
  go_wp2_with (go_at_call 13; refine (has_yes s _ L0 _ hs H0.out).mono ?_; rintro e w' ⟨rfl, rfl⟩)
  go_loop [3] (fun v => ∃ (i : Nat) (L : List Int), i ≤ s.size ∧ v = .int .i64 i ∧ Hid ((sbytes s).drop i = L) ∧ Mem.InQ r L)
    (fun v => s.size - (intOf v).toNat)
  case atStart => exact ⟨1, L0, hsz, rfl, HD, hq⟩
  case round =>
    clear HD hq
    obtain ⟨i, L, hi, rfl, HD, hq⟩ := hrel
    rcases hq.look with rfl | ⟨L', rfl, hq'⟩ | ⟨c, L', rfl, hc, hq'⟩
    · obtain ⟨hlt, hb⟩ := byte_at HD.out
      have hlen := drop_len HD.out
      have q1 : ((s[i].toNat : Int) != 39) = false := by rw [hb]; rfl
      have hEi : E = i := by have := HE.out; simp at hlen; omega
      subst hEi
      clear hb hq
      by_cases h2 : E + 1 < s.size
      · have hnx := drop_next HD.out
        have hne : ((s[E + 1].toNat : Int) == 39) = false := by
          cases r with
          | nil => have := drop_len hnx; simp at this; omega
          | cons c t =>
            obtain ⟨_, hb2⟩ := byte_at hnx
            rw [hb2]
            exact beq_eq_false_iff_ne.2 (HR.out c t rfl)
        clear hnx hlen
        go_wp2
        go_ret
        exact ⟨rfl, rfl⟩
      · clear hlen
        go_wp2
        go_ret
        exact ⟨rfl, rfl⟩
    · obtain ⟨hlt, hb⟩ := byte_at HD.out
      have hnx := drop_next HD.out
      obtain ⟨hlt2, hb2⟩ := byte_at hnx
      have q1 : ((s[i].toNat : Int) != 39) = false := by rw [hb]; rfl
      have q2 : ((s[i + 1].toNat : Int) == 39) = true := by rw [hb2]; rfl
      have HD2 : Hid _ := drop_next hnx
      clear hb hb2 hnx hq
      go_wp2
      go_round
      case rel => exact ⟨i + 2, L', by omega, by go_num, HD2, hq'⟩
      case measure => simp [intOf]; omega
    · obtain ⟨hlt, hb⟩ := byte_at HD.out
      have HD2 : Hid _ := drop_next HD.out
      have q1 : ((s[i].toNat : Int) != 39) = true := by rw [hb]; exact bne_iff_ne.2 hc
      clear hb hq
      go_wp2
      go_round
      case rel => exact ⟨i + 1, L', by omega, by go_num, HD2, hq'⟩
      case measure => simp [intOf]; omega

theorem quoted_no (s : ByteArray) (c : Int) (L : List Int) (w : World) (hs : s.size ≤ 1000000000) (h : sbytes s = c :: L) (hc : c ≠ 39) :
    Calls Try.prog 12 #[.string s] w fun e w' => e = .returned (.int .i64 (-1)) ∧ w' = w := by
  have H0 : Hid _ := h
  clear h
  go_enter Try.func12, Try.ntmps12
  go_wp2_with (go_at_call 13; refine (has_no s _ c 39 L [] _ hs (by decide) H0.out rfl hc).mono ?_; rintro e w' ⟨rfl, rfl⟩)
  go_ret
  exact ⟨rfl, rfl⟩
end Go.Proofs.Qxb6600799a
