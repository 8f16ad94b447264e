/- What the walks of this seat share: rows of cells of the call's own or of the caller's, closed facts of the program's table. -/
import Derived.Test.Qxb6600799aRows
import Derived.WalkKit
import Derived.ProofKit
import Derived.ShutString
import Derived.ChangeOld
import Derived.Below
import Derived.WalkSpells
import Derived.WalkLawsBesides
import Derived.Deep.QuietTactic
import Derived.BigQuiet
import Derived.RegionTactic
import Derived.BigRegion
import Derived.Laws.IdiomStrings
namespace Go.Proofs.Qxb6600799a
open Go.RowKit

theorem Try.info9 : (Try.prog.info? 9).map (fun i => (i.zero, i.size, i.bytes)) = some (some (.string ByteArray.empty), 1, 16) := by kernel_rfl
theorem Try.info3 : (Try.prog.info? 3).map (fun i => (i.zero, i.size, i.bytes)) = some (some (.int .i64 0), 1, 8) := by kernel_rfl
theorem Try.info5 : (Try.prog.info? 5).map (fun i => (i.zero, i.size, i.bytes)) = some (some (.int .u8 0), 1, 1) := by kernel_rfl

/-- The cells off, off + 1, .. of block b hold the numbers g 0, .., g (n - 1). -/
def Row (k : IntKind) (w : World) (b off n : Nat) (g : Nat → Int) : Prop := ∀ t, t < n → w.cell? ⟨b, off + t, none⟩ = some (.int k (g t))

/-- A row of the call's own, from its block's head, which may be written. -/
structure Own (k : IntKind) (w : World) (b n : Nat) (g : Nat → Int) : Prop where
  cell : ∀ t, t < n → w.cell? ⟨b, t, none⟩ = some (.int k (g t))
  free : ∀ t, t < n → w.frozen? ⟨b, t, none⟩ = false

theorem Own.row {k : IntKind} {w : World} {b n : Nat} {g : Nat → Int} (h : Own k w b n g) : Row k w b 0 n g := fun t ht => by rw [Nat.zero_add]; exact h.cell t ht

theorem Own.drew {k : IntKind} {w : World} {b n : Nat} {g : Nat → Int} (h : Own k w b n g) : Own k w.drew b n g := ⟨fun t ht => h.cell t ht, fun t ht => h.free t ht⟩

theorem Own.store {k : IntKind} {w : World} {b n : Nat} {g : Nat → Int} (h : Own k w b n g) (j : Nat) (hj : j < n) (v : Int) :
    Own k (w.setCell ⟨b, j, none⟩ (.int k v)) b n (fun t => if t = j then v else g t) := by
  refine ⟨fun t ht => ?_, fun t ht => by rw [World.frozen?_setCell]; exact h.free t ht⟩
  by_cases e : t = j
  · subst e
    rw [World.cell?_setCell_same _ _ _ (h.cell t ht)]
    simp
  · rw [World.cell?_setCell_other _ _ _ _ (by intro h; injection h with _ h2 _; exact e h2.symm), h.cell t ht]
    simp [e]

theorem Own.other {k : IntKind} {w : World} {b n : Nat} {g : Nat → Int} (h : Own k w b n g) (a : Addr) (ha : a.block ≠ b) (v : Value) : Own k (w.setCell a v) b n g := by
  refine ⟨fun t ht => ?_, fun t ht => by rw [World.frozen?_setCell]; exact h.free t ht⟩
  rw [World.cell?_setCell_other _ _ _ _ (by intro e; rw [e] at ha; exact ha rfl)]
  exact h.cell t ht

theorem Own.congr {k : IntKind} {w : World} {b n : Nat} {g g' : Nat → Int} (h : Own k w b n g) (e : ∀ t, t < n → g t = g' t) : Own k w b n g' :=
  ⟨fun t ht => by rw [← e t ht]; exact h.cell t ht, h.free⟩

theorem Own.below {k : IntKind} {w w' : World} {b n B : Nat} {g : Nat → Int} (h : Own k w b n g) (hb : Below B w w') (hlt : b < B) : Own k w' b n g :=
  ⟨fun t ht => (hb.cell (p := ⟨b, t, none⟩) hlt).trans (h.cell t ht), fun t ht => (hb.frozen (p := ⟨b, t, none⟩) hlt).trans (h.free t ht)⟩

theorem Row.below {k : IntKind} {w w' : World} {b off n B : Nat} {g : Nat → Int} (h : Row k w b off n g) (hb : Below B w w') (hlt : b < B) : Row k w' b off n g :=
  fun t ht => (hb.cell (p := ⟨b, off + t, none⟩) hlt).trans (h t ht)

/-- What 'make' hands over. -/
theorem own_made {k : IntKind} {w : World} {base n cap : Nat} {e : TypeId} {b : Nat} {xs : List Value} (h : w.ownsRow base e 1 (.slice (some ⟨b, 0, none⟩) n cap) n xs) (g : Nat → Int) (hx : ∀ t, t < n → xs[t]? = some (.int k (g t))) :
    Own k w b n g :=
  ⟨fun t ht => (h.cellAt t (by omega)).trans (hx t ht), fun t _ => h.frozenAt t⟩

theorem below_drewN {B : Nat} {a w : World} (h : Below B a w) (n : Nat) : Below B a (w.drewN n) := ⟨h.os, h.tape, h.output, h.size, h.block⟩

theorem Own.drewN {k : IntKind} {w : World} {b n : Nat} {g : Nat → Int} (h : Own k w b n g) (q : Nat) : Own k (w.drewN q) b n g := ⟨fun t ht => h.cell t ht, fun t ht => h.free t ht⟩

theorem ret_bool {a b : Bool} (h : a = b) : Ending.returned (.bool a) = .returned (.bool b) := by rw [h]
theorem ret_int {k : IntKind} {a b : Int} (h : a = b) : Ending.returned (.int k a) = .returned (.int k b) := by rw [h]
end Go.Proofs.Qxb6600799a
