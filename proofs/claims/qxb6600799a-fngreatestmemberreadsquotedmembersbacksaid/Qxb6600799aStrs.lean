/- Slices of strings; a nil slice of bytes that is appended to; bytes turned into a string; the bound that was laid ahead of the law. -/
import Derived.Test.Qxb6600799aBuf
import Derived.Test.Qxb6600799aMem
import Derived.Laws.IdiomStrings
namespace Go.Proofs.Qxb6600799a
open Go.RowKit

/-- The cells off, off + 1, .. of block b hold the strings S 0, .., S (n - 1). -/
def Strs (w : World) (b off n : Nat) (S : Nat → ByteArray) : Prop := ∀ t, t < n → w.cell? ⟨b, off + t, none⟩ = some (.string (S t))

theorem Strs.below {w w' : World} {b off n B : Nat} {S : Nat → ByteArray} (h : Strs w b off n S) (hb : Below B w w') (hlt : b < B) : Strs w' b off n S :=
  fun t ht => (hb.cell (p := ⟨b, off + t, none⟩) hlt).trans (h t ht)

/-- What is told of a slice of strings: it is empty, or its cells are known and lie below B. -/
def StrsIn (w : World) (B : Nat) (ao : Option Addr) (n : Nat) (S : Nat → ByteArray) : Prop := n = 0 ∨ ∃ b off, ao = some ⟨b, off, none⟩ ∧ b < B ∧ Strs w b off n S

theorem StrsIn.below {w w' : World} {B B' n : Nat} {ao : Option Addr} {S : Nat → ByteArray} (h : StrsIn w B ao n S) (hb : Below B' w w') (hB : B ≤ B') : StrsIn w' B ao n S := by
  rcases h with h | ⟨b, off, e, hlt, hs⟩
  · exact .inl h
  · exact .inr ⟨b, off, e, hlt, hs.below hb (by omega)⟩

/-- A row of strings of the call's own. -/
structure OwnS (w : World) (b n : Nat) (S : Nat → ByteArray) : Prop where
  cell : ∀ t, t < n → w.cell? ⟨b, t, none⟩ = some (.string (S t))
  free : ∀ t, t < n → w.frozen? ⟨b, t, none⟩ = false

theorem OwnS.store {w : World} {b n : Nat} {S : Nat → ByteArray} (h : OwnS w b n S) (j : Nat) (hj : j < n) (v : ByteArray) :
    OwnS (w.setCell ⟨b, j, none⟩ (.string v)) b n (fun t => if t = j then v else S t) := by
  refine ⟨fun t ht => ?_, fun t ht => by rw [World.frozen?_setCell]; exact h.free t ht⟩
  by_cases e : t = j
  · subst e
    rw [World.cell?_setCell_same _ _ _ (h.cell t ht)]
    simp
  · rw [World.cell?_setCell_other _ _ _ _ (by intro h; injection h with _ h2 _; exact e h2.symm), h.cell t ht]
    simp [e]

theorem OwnS.congr {w : World} {b n : Nat} {S S' : Nat → ByteArray} (h : OwnS w b n S) (e : ∀ t, t < n → S t = S' t) : OwnS w b n S' :=
  ⟨fun t ht => by rw [← e t ht]; exact h.cell t ht, h.free⟩

theorem owns_made {w : World} {base n cap : Nat} {e : TypeId} {b : Nat} {xs : List Value} (h : w.ownsRow base e 1 (.slice (some ⟨b, 0, none⟩) n cap) n xs) (S : Nat → ByteArray) (hx : ∀ t, t < n → xs[t]? = some (.string (S t))) :
    OwnS w b n S :=
  ⟨fun t ht => (h.cellAt t (by omega)).trans (hx t ht), fun t _ => h.frozenAt t⟩

section
variable {ops : Array Oper} {rest : List Oper} {o : Oper} {a : Act} {Q : Exit → Act → World → Prop}

/-- 'append(b, s...)', b nil, s a string that is not empty. -/
theorem wpList_apps_nil (w : World) (hg : o.guard = none) (sl x : Operand) (hop : o.op = .call { callee := .builtin .append, args := #[sl, x], argTypes := #[28, 9] }) (base : Nat) (hs : a.eval sl = .slice none 0 0)
    (s : ByteArray) (hx : a.eval x = .string s) (h0 : 0 < s.size) (hlen : s.size ≤ 1000000000) (hbase : base ≤ w.heap.size)
    (hK : ∀ v' w', Buf w' base v' (sbytes s) → Below base w w' → wpList Try.prog ops Q rest (a.put o.dst v') w') : wpList Try.prog ops Q (o :: rest) a w := by
  obtain ⟨i0, hi, hz0, hz1, hz2⟩ := info_parts Try.info5
  refine Lib.wpList_append_own_string w hg sl x 28 9 hop base 5 i0 Try.underlying28 Try.underlying9 hi hz0 hz1 hz2 (.slice none 0 0) 0 [] hs (World.ownsRow_nil _ _ _ _) s hx (by unfold maxLen; omega) (by omega) hbase (fun v' w' h1 h2 h3 => ?_)
  refine hK v' w' ⟨?_, fun e => by have := (h3.1 e).2; omega⟩ ((Below.refl _ _).grown h2 hbase (fun k hk => by cases hk))
  have e : (sbytes s).map (Value.int .u8) = Lib.strCells s := by simp [sbytes, Lib.strCells]
  rw [e, sbytes_length]
  simpa using h1

/-- 'string(b)'. -/
theorem wpList_str (w : World) (hg : o.guard = none) (x : Operand) (hop : o.op = Op.convert 28 9 x) (base : Nat) (v : Value) (l : List Int) (hx : a.eval x = v) (hB : Buf w base v l) (hl : ∀ c ∈ l, 0 ≤ c ∧ c ≤ 255)
    (hK : ∀ s, sbytes s = l → wpList Try.prog ops Q rest (a.put o.dst (.string s)) w) : wpList Try.prog ops Q (o :: rest) a w := by
  obtain ⟨g, cap, rfl, _⟩ := hB.shape
  refine wpList_plain hg fun K hK' => ?_
  obtain ⟨u, hu⟩ : ∃ u : List UInt8, u = l.map (fun c => UInt8.ofNat c.toNat) := ⟨_, rfl⟩
  have hul : u.length = l.length := by rw [hu]; simp
  have hback : u.map (fun b => (b.toNat : Int)) = l := by
    rw [hu, List.map_map]
    refine (List.map_congr_left (fun c hc => ?_)).trans (List.map_id _)
    have := hl c hc
    simp [UInt8.toNat_ofNat']
    omega
  have hrun := run_convert_bytes_back (P := Try.prog) w 28 9 5 ⟨g, 0, none⟩ cap u Try.underlying28 Try.underlying5 Try.underlying9 (fun j hj => by
    rw [Go.WideShapes.add_plain, Nat.zero_add, hB.cells j (by omega)]
    have hj' : j < l.length := by omega
    rw [List.getD_eq_getElem?_getD, List.getElem?_eq_getElem hj']
    have e : l[j] = (u[j].toNat : Int) := by
      have := congrArg (fun q => q[j]?) hback
      simp [List.getElem?_eq_getElem hj, List.getElem?_eq_getElem hj'] at this
      exact this.symm
    rw [Option.getD_some, e])
  rw [hul] at hrun
  unfold Oper.wp
  simp [execOp, hop, hx, hrun, Result.andThen]
  exact hK' _ _ (hK _ (by simpa [sbytes] using hback))
end

set_option maxHeartbeats 800000 in
/-- The bound that was laid ahead of the law: where it says yes, no member is long; it changes nothing. -/
theorem zz8_any (ao : Option Addr) (n cap : Nat) (S : Nat → ByteArray) (c : ByteArray) (b : Bool) (w : World) (hn : n ≤ 9223372036854775807) (hS : StrsIn w w.heap.size ao n S) (hSz : ∀ t, t < n → (S t).size ≤ 9223372036854775807) :
    Calls Try.prog 8 #[.slice ao n cap, .string c, .bool b] w fun e w' => ((e = .returned (.bool true) ∧ ∀ t, t < n → (S t).size ≤ 1048576) ∨ e = .returned (.bool false)) ∧ w' = w := by
  by_cases h1 : n ≤ 1048576
  · rcases hS with rfl | ⟨bb, off, rfl, _, hS⟩
    · go_enter Try.func8, Try.ntmps8
      go_wp2
      go_loop [7, 8] (fun s i => (∃ z, s = .int .i64 z) ∧ i = .int .i64 0) (fun _ _ => 0)
      case atStart => exact ⟨⟨_, rfl⟩, rfl⟩
      case round =>
        obtain ⟨⟨z, rfl⟩, rfl⟩ := hrel
        go_wp2
        all_goals (go_ret; first | exact ⟨.inr rfl, rfl⟩ | exact ⟨.inl rfl, rfl⟩)
    · go_enter Try.func8, Try.ntmps8
      go_wp2
      go_loop [7, 8] (fun s i => (∃ z, s = .int .i64 z) ∧ ∃ k : Nat, k ≤ n ∧ i = .int .i64 k ∧ Hid (∀ t, t < k → (S t).size ≤ 1048576)) (fun _ i => n - (intOf i).toNat)
      case atStart => exact ⟨⟨_, rfl⟩, 0, by omega, rfl, fun t ht => by omega⟩
      case round =>
        obtain ⟨⟨z, rfl⟩, k, hk, rfl, HS⟩ := hrel
        by_cases hlt : k < n
        · have hc := hS k hlt
          have hkz := hSz k hlt
          generalize hSk : S k = sk at *
          by_cases hbig : sk.size ≤ 1048576
          · have HS2 : Hid (∀ t, t < k + 1 → (S t).size ≤ 1048576) := fun t ht => by
              by_cases e : t = k
              · rw [e, hSk]; exact hbig
              · exact HS.out t (by omega)
            clear hSk
            go_wp2
            all_goals first
              | (go_ret; exact ⟨.inr rfl, rfl⟩)
              | (go_round
                 case rel => exact ⟨⟨_, rfl⟩, k + 1, by omega, by go_num, HS2⟩
                 case measure => simp [intOf]; omega)
          · clear hSk
            go_wp2
            go_ret
            exact ⟨.inr rfl, rfl⟩
        · obtain rfl : k = n := by omega
          go_wp2
          all_goals (go_ret; first | exact ⟨.inl ⟨rfl, HS.out⟩, rfl⟩ | exact ⟨.inr rfl, rfl⟩)
  · go_enter Try.func8, Try.ntmps8
    go_wp2
    go_ret
    exact ⟨.inr rfl, rfl⟩
end Go.Proofs.Qxb6600799a
