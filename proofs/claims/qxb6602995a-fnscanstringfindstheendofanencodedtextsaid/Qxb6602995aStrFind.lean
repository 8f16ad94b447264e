/- The walk of the law 'FnScanStringFindsTheEndOfAnEncodedText'. -/
import Derived.Test.Qxb6602995aStrEnd
import Derived.Test.Qxb6602995aEncWalk
namespace Go.Proofs.Qxb6602995a
open Go.RowKit

/-- The bound that was laid ahead of the laws over three texts. -/
def zz3 (a b c : Nat) : Bool := decide (a + b + c ≤ 1048576)

theorem zz17_any (a b c : ByteArray) (w : World) (ha : a.size ≤ maxLen) (hb : b.size ≤ maxLen) (hc : c.size ≤ maxLen) :
    Calls Try.prog 17 #[.string a, .string b, .string c] w fun e w' => e = .returned (.bool (zz3 a.size b.size c.size)) ∧ w' = w := by
  unfold maxLen at ha hb hc
  by_cases h : a.size + b.size + c.size ≤ 1048576
  · rw [show zz3 a.size b.size c.size = true from decide_eq_true h]
    go_enter Try.func17, Try.ntmps17
    go_wp2
    go_ret
    exact ⟨rfl, rfl⟩
  · rw [show zz3 a.size b.size c.size = false from decide_eq_false h]
    by_cases h1 : a.size ≤ 1048576
    · by_cases h2 : b.size ≤ 1048576
      · by_cases h3 : a.size + b.size ≤ 1048576
        · by_cases h4 : c.size ≤ 1048576
          · go_enter Try.func17, Try.ntmps17
            go_wp2
            go_ret
            exact ⟨rfl, rfl⟩
          · go_enter Try.func17, Try.ntmps17
            go_wp2
            go_ret
            exact ⟨rfl, rfl⟩
        · go_enter Try.func17, Try.ntmps17
          go_wp2
          go_ret
          exact ⟨rfl, rfl⟩
      · go_enter Try.func17, Try.ntmps17
        go_wp2
        go_ret
        exact ⟨rfl, rfl⟩
    · go_enter Try.func17, Try.ntmps17
      go_wp2
      go_ret
      exact ⟨rfl, rfl⟩

set_option maxHeartbeats 1600000 in
set_option maxRecDepth 100000 in
theorem strFind_walk (a b c : ByteArray) (w0 : a.size ≤ maxLen) (w1 : b.size ≤ maxLen) (w2 : c.size ≤ maxLen) (w : World) :
    Calls Try.prog 4 #[.string a, .string b, .string c] w fun e w' => e = .returned (.bool true) ∧ Below w.heap.size w w' := by
  cases hz : zz3 a.size b.size c.size with
  | false =>
    go_enter Try.func4, Try.ntmps4
    go_wp2_with (go_at_call 17; refine (zz17_any a b c _ w0 w1 w2).mono ?_; rintro e w' ⟨rfl, rfl⟩)
    go_ret
    exact ⟨rfl, Below.refl _ _⟩
  | true =>
    by_cases h1 : a.size ≤ 65536
    · by_cases h2 : b.size ≤ 65536
      · by_cases h3 : c.size ≤ 65536
        · have hel := Scan.encL_len (sbytes b) 0
          have hsl := sbytes_length b
          have hsa := sbytes_length a
          have hsc := sbytes_length c
          rw [hsl] at hel
          have HSA : Hid _ := hsa
          have HSC : Hid _ := hsc
          clear hsl hsa hsc
          obtain ⟨nb, hnb⟩ : ∃ nb, Scan.needL (sbytes b) = nb := ⟨_, rfl⟩
          have HNB : Hid _ := hnb
          clear hnb
          go_enter Try.func4, Try.ntmps4
          go_wp2_with (go_at_call 17; refine (zz17_any a b c _ w0 w1 w2).mono ?_; rintro e w' ⟨rfl, rfl⟩)
          refine (encode_any b _ (by omega)).mono ?_
          rintro e w3 ⟨ve, rfl, hBe, hb3⟩
          obtain ⟨ge, ce, rfl, hge⟩ := hBe.shape
          have hge2 := hBe.lt
          generalize hE : Scan.encL 0 (sbytes b) = enc at *
          have HE : Hid _ := hE
          clear hE
          go_wp2_with (at_make; refine wpList_mk _ rfl _ _ rfl _ _ _ (a.size + enc.length + 2 + c.size) rfl rfl (by simp) (by omega) ?_)
          intro v4 w4 hB4 hb4
          have hz4 := hb4.size
          go_wp2_with (at_builtin; refine wpList_apps _ rfl _ _ rfl w3.heap.size _ _ rfl hB4 a rfl (by simp; omega) (by omega) ?_)
          intro v5 w5 hB5 hb5
          have hz5 := hb5.size
          have hB5 : Buf w5 w3.heap.size v5 (sbytes a) := hB5
          go_wp2_with (at_builtin; refine wpList_app _ rfl _ _ rfl w3.heap.size _ _ rfl hB5 [34] 1 1 rfl rfl (by rw [HSA.out]; omega) (by omega) ?_)
          intro v6 w6 hB6 hb6
          have hz6 := hb6.size
          have hrow6 : Row .u8 w6 ge 0 enc.length (fun t => enc.getD t 0) := (((hBe.row.below hb4 hge2).below hb5 (by omega)).below hb6 (by omega))
          go_wp2_with (at_builtin; refine wpList_appr _ rfl _ _ rfl w3.heap.size _ _ rfl hB6 ge ce 0 enc enc.length rfl rfl hrow6 (by simp [HSA.out]; omega) (by omega) ?_)
          intro v7 w7 hB7 hb7
          have hz7 := hb7.size
          go_wp2_with (at_builtin; refine wpList_app _ rfl _ _ rfl w3.heap.size _ _ rfl hB7 [34] 1 1 rfl rfl (by simp [HSA.out]; omega) (by omega) ?_)
          intro v8 w8 hB8 hb8
          have hz8 := hb8.size
          go_wp2_with (at_builtin; refine wpList_apps _ rfl _ _ rfl w3.heap.size _ _ rfl hB8 c rfl (by simp [HSA.out]; omega) (by omega) ?_)
          intro v9 w9 hB9 hb9
          have hz9 := hb9.size
          have hL : Buf w9 w3.heap.size v9 (sbytes a ++ ([34] ++ (enc ++ ([34] ++ sbytes c)))) := by simpa using hB9
          have hLn : (sbytes a ++ ([34] ++ (enc ++ ([34] ++ sbytes c)))).length = a.size + enc.length + 2 + c.size := by simp [HSA.out, HSC.out]; omega
          have hfin := Scan.finds_end (sbytes a) (sbytes b) (sbytes c) (sbytes_bounds b) (fun t => (sbytes a ++ ([34] ++ (enc ++ ([34] ++ sbytes c)))).getD t 0) (a.size + enc.length + 2 + c.size) (by rw [HSA.out, HSC.out, HE.out]) (fun t ht => by rw [HE.out, Nat.zero_add])
          rw [HSA.out, HE.out, HNB.out] at hfin
          have hbel : Below w'.heap.size w' w9 := (hb3.trans (hb4.mono (by omega))).trans ((((((hb5.trans hb6).trans hb7).trans hb8).trans hb9)).mono (by have := hb3.size; omega))
          clear hB4 hB5 hB6 hB7 hB8 hB9 hb4 hb5 hb6 hb7 hb8 hb9 hrow6 hBe
          generalize hLL : sbytes a ++ ([34] ++ (enc ++ ([34] ++ sbytes c))) = L at *
          obtain ⟨g9, c9, rfl, hg9⟩ := hL.shape
          have hrow9 := hL.row
          rw [hLn] at hrow9
          have HFIN : Hid _ := hfin
          have HLN : Hid _ := hLn
          clear hfin hLn hLL
          go_wp2_with fail
          rw [HLN.out]
          refine (zzscanString_any (fun t => L.getD t 0) (a.size + enc.length + 2 + c.size) (a.size + enc.length + 2) nb true g9 0 c9 a.size _ (by omega) (by omega) hrow9 HFIN.out).mono ?_
          rintro e w10 ⟨rfl, rfl⟩
          go_wp2_with fail
          refine (textNeedsEscape_any b nb _ (by omega) HNB.out).mono ?_
          rintro e w11 ⟨rfl, rfl⟩
          go_wp2
          go_ret
          exact ⟨rfl, hbel⟩
        · go_enter Try.func4, Try.ntmps4
          go_wp2_with (go_at_call 17; refine (zz17_any a b c _ w0 w1 w2).mono ?_; rintro e w' ⟨rfl, rfl⟩)
          go_ret
          exact ⟨rfl, Below.refl _ _⟩
      · go_enter Try.func4, Try.ntmps4
        go_wp2_with (go_at_call 17; refine (zz17_any a b c _ w0 w1 w2).mono ?_; rintro e w' ⟨rfl, rfl⟩)
        go_ret
        exact ⟨rfl, Below.refl _ _⟩
    · go_enter Try.func4, Try.ntmps4
      go_wp2_with (go_at_call 17; refine (zz17_any a b c _ w0 w1 w2).mono ?_; rintro e w' ⟨rfl, rfl⟩)
      go_ret
      exact ⟨rfl, Below.refl _ _⟩
end Go.Proofs.Qxb6602995a
