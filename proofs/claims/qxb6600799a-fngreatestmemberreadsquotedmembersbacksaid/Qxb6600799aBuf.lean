/- A slice of bytes of the call's own that is appended to: its laws, at this program's types. -/
import Derived.Test.Qxb6600799aBase
import Derived.Lib.AppendStr
namespace Go.Proofs.Qxb6600799a
open Go.RowKit

/-- The bytes of a string, as numbers. -/
def sbytes (s : ByteArray) : List Int := s.data.toList.map fun b => (b.toNat : Int)

theorem sbytes_length (s : ByteArray) : (sbytes s).length = s.size := by simp [sbytes]
theorem sbytes_bounds (s : ByteArray) : ∀ c ∈ sbytes s, 0 ≤ c ∧ c ≤ 255 := by
  intro c hc
  obtain ⟨b, _, rfl⟩ := List.mem_map.1 hc
  have := b.toNat_lt
  exact ⟨by omega, by omega⟩
theorem sbytes_take (s : ByteArray) (k : Nat) (h : k < s.size) : (sbytes s).take (k + 1) = (sbytes s).take k ++ [(s[k].toNat : Int)] := by
  rw [List.take_succ_eq_append_getElem (by rw [sbytes_length]; exact h)]
  simp [sbytes]
  rfl

/-- The slice value v is not nil and owns the bytes l, in a block from base on. -/
structure Buf (w : World) (base : Nat) (v : Value) (l : List Int) : Prop where
  own : w.ownsRow base 5 1 v l.length (l.map (Value.int .u8))
  full : v ≠ .slice none 0 0

theorem Buf.shape {w : World} {base : Nat} {v : Value} {l : List Int} (h : Buf w base v l) : ∃ g cap, v = .slice (some ⟨g, 0, none⟩) l.length cap ∧ base ≤ g := by
  obtain ⟨_, h2⟩ := h.own
  rcases h2 with ⟨e, _⟩ | ⟨g, cap, cur, e, hb, _⟩
  · exact absurd e h.full
  · exact ⟨g, cap, e, hb⟩

theorem Buf.cells {w : World} {base g cap : Nat} {l : List Int} (h : Buf w base (.slice (some ⟨g, 0, none⟩) l.length cap) l) (t : Nat) (ht : t < l.length) : w.cell? ⟨g, t, none⟩ = some (.int .u8 (l.getD t 0)) := by
  rw [h.own.cellAt t (by omega), List.getElem?_map, List.getD_eq_getElem?_getD, List.getElem?_eq_getElem ht]
  rfl

theorem Buf.row {w : World} {base g cap : Nat} {l : List Int} (h : Buf w base (.slice (some ⟨g, 0, none⟩) l.length cap) l) : Row .u8 w g 0 l.length (fun t => l.getD t 0) :=
  fun t ht => by rw [Nat.zero_add]; exact h.cells t ht

theorem Buf.lt {w : World} {base g cap : Nat} {l : List Int} (h : Buf w base (.slice (some ⟨g, 0, none⟩) l.length cap) l) : g < w.heap.size := by
  obtain ⟨_, h2⟩ := h.own
  rcases h2 with ⟨e, _⟩ | ⟨g', cap', cur, e, hb, hh, _⟩
  · cases e
  · injection e with e1 e2 e3
    injection e1 with e4
    injection e4 with e5 e6 e7
    rw [e5]
    exact lt_of_block hh

/-- What lies below a number above its block is as it was: so is the slice. -/
theorem Buf.below {w w' : World} {base B : Nat} {v : Value} {l : List Int} (h : Buf w base v l) (hb : Below B w w') (hB : ∀ g cap, v = .slice (some ⟨g, 0, none⟩) l.length cap → g < B) : Buf w' base v l := by
  refine ⟨⟨h.own.1, ?_⟩, h.full⟩
  rcases h.own.2 with ⟨e, _⟩ | ⟨g, cap, cur, e, hbg, hh, r⟩
  · exact absurd e h.full
  · exact .inr ⟨g, cap, cur, e, hbg, (hb.block g (hB g cap e)).trans hh, r⟩

theorem Buf.drew {w : World} {base : Nat} {v : Value} {l : List Int} (h : Buf w base v l) : Buf w.drew base v l := ⟨h.own.drew, h.full⟩

theorem Buf.ownBlock {w : World} {base : Nat} {v : Value} {l : List Int} (h : Buf w base v l) : ∀ k, v.ownBlock = some k → base ≤ k := by
  obtain ⟨g, cap, rfl, hb⟩ := h.shape
  intro k hk
  cases hk
  exact hb

section
variable {ops : Array Oper} {rest : List Oper} {o : Oper} {a : Act} {Q : Exit → Act → World → Prop}

/-- 'make([]byte, 0, n)'. -/
theorem wpList_mk (w : World) (hg : o.guard = none) (l c : Operand) (hop : o.op = Op.makeSlice 28 l c) (kl kc : IntKind) (C : Int) (n : Nat) (hl : a.eval l = .int kl 0) (hc : a.eval c = .int kc C) (hC : C = (n : Int)) (hn : n ≤ 1000000000)
    (hK : ∀ v w', Buf w' w.heap.size v [] → Below w.heap.size w w' → wpList Try.prog ops Q rest (a.put o.dst v) w') : wpList Try.prog ops Q (o :: rest) a w := by
  obtain ⟨i0, hi, hz0, hz1, hz2⟩ := info_parts Try.info5
  refine wpList_make_own w hg l c 28 hop w.heap.size 5 i0 (.int .u8 0) 1 Try.underlying28 hi hz0 hz1 kl kc C n hl hc hC (by rw [hz2]; omega) (by unfold maxLen; omega) (Nat.le_refl _) fun w' h1 h2 => ?_
  exact hK _ w' ⟨h1, by simp⟩ ((Below.refl _ _).grown h2 (Nat.le_refl _) (fun k h => by cases h))

/-- 'append(b, x, y, ..)': the elements lie in a block of their own, laid last. -/
theorem wpList_app (w : World) (hg : o.guard = none) (s x : Operand) (hop : o.op = .call { callee := .builtin .append, args := #[s, x], argTypes := #[28, 28] }) (base : Nat) (v : Value) (l : List Int) (hs : a.eval s = v) (hB : Buf w base v l)
    (new : List Int) (m c : Nat) (hm : new.length = m) (hx : a.eval x = .slice (some ⟨w.heap.size, 0, none⟩) m c) (hlen : l.length + m ≤ 1000000000) (hbase : base ≤ w.heap.size)
    (hK : ∀ v' w', Buf w' base v' (l ++ new) → Below base w w' → wpList Try.prog ops Q rest (a.put o.dst v') w') : wpList Try.prog ops Q (o :: rest) a (w.alloc (.cells (new.map (Value.int .u8)).toArray 5)) := by
  obtain ⟨i0, hi, hz0, hz1, hz2⟩ := info_parts Try.info5
  refine wpList_append_own _ hg s x 28 hop base 5 i0 (.int .u8 0) 1 1 Try.underlying28 hi hz0 hz1 hz2 rfl (by decide) v _ _ hs (hB.own.alloc _) ⟨w.heap.size, 0, none⟩ m c (new.map (Value.int .u8)) hx (by simp [hm])
    (fun j u hu => ?_) (fun u hu => ?_) (by unfold maxLen; omega) (by omega) (by simp; omega) (fun v' w' h1 h2 h3 => ?_)
  · rw [Go.WideShapes.add_plain, Nat.zero_add, World.cell?_alloc_new]
    simpa using hu
  · obtain ⟨z, _, rfl⟩ := List.mem_map.1 hu
    rfl
  · refine hK v' w' ⟨by simpa [hm] using h1, fun e => ?_⟩ ((((Below.refl _ _).alloc hbase _)).grown h2 (by simp; omega) (hB.ownBlock))
    exact hB.full (h3.1 e).1

/-- 'append(b, s...)', s a string. -/
theorem wpList_apps (w : World) (hg : o.guard = none) (sl x : Operand) (hop : o.op = .call { callee := .builtin .append, args := #[sl, x], argTypes := #[28, 9] }) (base : Nat) (v : Value) (l : List Int) (hs : a.eval sl = v) (hB : Buf w base v l)
    (s : ByteArray) (hx : a.eval x = .string s) (hlen : l.length + s.size ≤ 1000000000) (hbase : base ≤ w.heap.size)
    (hK : ∀ v' w', Buf w' base v' (l ++ sbytes s) → Below base w w' → wpList Try.prog ops Q rest (a.put o.dst v') w') : wpList Try.prog ops Q (o :: rest) a w := by
  obtain ⟨i0, hi, hz0, hz1, hz2⟩ := info_parts Try.info5
  refine Lib.wpList_append_own_string w hg sl x 28 9 hop base 5 i0 Try.underlying28 Try.underlying9 hi hz0 hz1 hz2 v _ _ hs hB.own s hx (by unfold maxLen; omega) (by omega) hbase (fun v' w' h1 h2 h3 => ?_)
  refine hK v' w' ⟨?_, fun e => hB.full (h3.1 e).1⟩ ((Below.refl _ _).grown h2 hbase hB.ownBlock)
  rw [List.length_append, sbytes_length, List.map_append]
  have e : (sbytes s).map (Value.int .u8) = Lib.strCells s := by simp [sbytes, Lib.strCells]
  rw [e]
  exact h1

/-- 'append(b, xs...)', xs a slice of bytes whose cells are known. -/
theorem wpList_appr (w : World) (hg : o.guard = none) (s x : Operand) (hop : o.op = .call { callee := .builtin .append, args := #[s, x], argTypes := #[28, 28] }) (base : Nat) (v : Value) (l : List Int) (hs : a.eval s = v) (hB : Buf w base v l)
    (gx cx ox : Nat) (new : List Int) (m : Nat) (hm : new.length = m) (hx : a.eval x = .slice (some ⟨gx, ox, none⟩) m cx) (hrow : Row .u8 w gx ox m (fun t => new.getD t 0)) (hlen : l.length + m ≤ 1000000000) (hbase : base ≤ w.heap.size)
    (hK : ∀ v' w', Buf w' base v' (l ++ new) → Below base w w' → wpList Try.prog ops Q rest (a.put o.dst v') w') : wpList Try.prog ops Q (o :: rest) a w := by
  obtain ⟨i0, hi, hz0, hz1, hz2⟩ := info_parts Try.info5
  refine wpList_append_own _ hg s x 28 hop base 5 i0 (.int .u8 0) 1 1 Try.underlying28 hi hz0 hz1 hz2 rfl (by decide) v _ _ hs hB.own ⟨gx, ox, none⟩ m cx (new.map (Value.int .u8)) hx (by simp [hm])
    (fun j u hu => ?_) (fun u hu => ?_) (by unfold maxLen; omega) (by omega) hbase (fun v' w' h1 h2 h3 => ?_)
  · have hj : j < new.length := by
      rcases Nat.lt_or_ge j new.length with h | h
      · exact h
      · rw [List.getElem?_eq_none (by simpa using h)] at hu; cases hu
    rw [Go.WideShapes.add_plain, hrow j (by omega), ← hu, List.getElem?_map, List.getElem?_eq_getElem hj]
    simp [hj]
  · obtain ⟨z, _, rfl⟩ := List.mem_map.1 hu
    rfl
  · exact hK v' w' ⟨by simpa [hm] using h1, fun e => hB.full (h3.1 e).1⟩ ((Below.refl _ _).grown h2 hbase hB.ownBlock)
end
end Go.Proofs.Qxb6600799a
