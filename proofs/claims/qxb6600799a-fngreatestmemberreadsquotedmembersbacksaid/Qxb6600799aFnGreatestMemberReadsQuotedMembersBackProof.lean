/- The proof of 'Rows.FnGreatestMemberReadsQuotedMembersBackSaid': the frame is the guide's shell for laws over slices, turned to a slice of strings; the walk lies in Qxb6600799aBack. The row's closed facts are proved one by one (Qxb6600799aFacts says why). -/
import Derived.Test.Qxb6600799aRows
import Derived.Test.Qxb6600799aFacts
import Derived.Test.Qxb6600799aBack
import Derived.WalkKit
import Derived.ProofKit
import Derived.OpenShut
import Derived.ShutString
import Derived.ChangeOld
import Derived.Below
import Derived.SliceStrings
namespace Go.Proofs.Qxb6600799a.fnGreatestMemberReadsQuotedMembersBack
open Go.ChangeShapes Go.WideShapes Go.ChangeAt Go.RowKit
open Go.ChangeMaps (open_string shut_string)
set_option linter.unusedVariables false

theorem own : ownKnob Try.prog.godebug = none := by kernel_rfl
theorem laidOut : laidOutB Try.prog = true := by kernel_rfl

/-- What the walk is told of a slice of strings that came in. -/
theorem told {w : World} {a : Addr} {len : Nat} {ss : List ByteArray} (hl : len ≤ ss.length) (hcell : ∀ i, i < ss.length → w.cell? (a.add i) = some (.string (ss.getD i ByteArray.empty))) :
    StrsIn w w.heap.size (some a) len (fun t => ss.getD t ByteArray.empty) := by
  by_cases h0 : len = 0
  · exact .inl h0
  · obtain ⟨b, off, spot⟩ := a
    have hspot : spot = none := by simpa [Addr.add] using World.cell?_spot (hcell 0 (by omega))
    subst hspot
    refine .inr ⟨b, off, rfl, World.block_lt_of_cell? _ _ (hcell 0 (by omega)), fun t ht => ?_⟩
    have h := hcell t (by omega)
    rw [add_plain] at h
    exact h

set_option maxRecDepth 100000 in
theorem lifted (os : Os) (started : os.Started) (H : Type) (enc : TypeId × Value → H) :
    ReturnsInHanded {} Try.checked os 4 .any (Rows.fnGreatestMemberReadsQuotedMembersBackSpec.pre6 enc Try.prog Try.f4 Rows.fnGreatestMemberReadsQuotedMembersBackRow.domain false) (Rows.fnGreatestMemberReadsQuotedMembersBackSpec.post enc Try.prog Try.f4 false true false false) := by
  refine returnsInHanded_of_change (C := Try.checked) own started (by kernel_rfl) Try.func4
    (ChangeSpec.witness6 (enc := enc) (C := Try.checked) false ⟨#[], #[.slice none 0 0, .string ByteArray.empty, .bool false], []⟩ 8 (by kernel_rfl) (by kernel_rfl) (by kernel_rfl) (by kernel_rfl)) ?_
  intro W base args ds gs before hval0 hW hcnd _
  have hval : ∀ (j : Nat) t v, Try.f4.params[j]? = some t → args[j]? = some v → Value.okWide Try.prog W .any base t v := hval0
  have hW' := hW
  obtain ⟨p, q, hA0, hV, rfl, hfz, hnd⟩ := hW
  have hA : DataW.TrodAll enc Try.prog W 0 (fun _ => true) true Try.f4.params.toList args.toList ds p := hA0
  rw [Try.params4] at hA hval
  obtain ⟨v0, vs0, d0, ds0, p0, q0, hargs, rfl, rfl, h0, r0⟩ := trodAll_cons hA
  obtain ⟨v1, vs1, d1, ds1, p1, q1, rfl, rfl, rfl, h1, r1⟩ := trodAll_cons r0
  obtain ⟨v2, vs2, d2, ds2, p2, q2, rfl, rfl, rfl, h2, r2⟩ := trodAll_cons r1
  obtain ⟨rfl, rfl, rfl⟩ := trodAll_nil r2
  obtain rfl : args = #[v0, v1, v2] := by cases args; simp_all
  obtain ⟨rfl, rfl⟩ := trodVars_none hV
  obtain ⟨a0, len0, cap0, rfl⟩ := okWide_slice Try.underlying26 (hval 0 26 v0 rfl rfl)
  have k0 := h0
  have lt0 : ∀ x ∈ p0, x.block < W.heap.size := by obtain ⟨m, hm⟩ := k0; exact DataW.trod_lt m _ _ _ hm
  obtain ⟨S, hl0, hn0, hS0, hz0⟩ : ∃ S : Nat → ByteArray, len0 ≤ 9223372036854775807 ∧ (a0 = none → len0 = 0) ∧ StrsIn W W.heap.size a0 len0 S ∧ ∀ t, t < len0 → (S t).size ≤ 9223372036854775807 := by
    obtain ⟨fuel, hf⟩ := h0
    rcases open_strings Try.underlying26 Try.underlying9 (by kernel_rfl) hf with ⟨hcs, _⟩ | ⟨x, l, c, ss, hcs, _, hl, hm, hz, _, hcell, hws⟩
    · simp [Value.cells] at hcs
      obtain ⟨rfl, rfl, rfl⟩ := hcs
      exact ⟨fun _ => ByteArray.empty, by omega, fun _ => rfl, .inl rfl, fun t ht => by omega⟩
    · simp [Value.cells] at hcs
      obtain ⟨rfl, rfl, rfl⟩ := hcs
      simp only [if_true] at hz
      unfold maxLen at hm hws
      refine ⟨fun t => ss.getD t ByteArray.empty, by omega, (fun h => by cases h), told (by omega) hcell, fun t ht => ?_⟩
      show (ss.getD t ByteArray.empty).size ≤ 9223372036854775807
      rw [List.getD_eq_getElem?_getD, List.getElem?_eq_getElem (show t < ss.length by omega)]
      exact hws _ (List.getElem_mem _)
  obtain ⟨a1, rfl, rfl, rfl, w1⟩ := open_string Try.underlying9 (hval 1 9 v1 rfl rfl) h1
  obtain ⟨a2, rfl, rfl, rfl⟩ := open_bool Try.underlying4 (hval 2 4 v2 rfl rfl) h2
  clear hA0 hval0
  refine (back_walk a0 len0 cap0 S a1 a2 W hl0 w1 hn0 hS0 hz0).mono fun e W' ⟨he, bel⟩ => ?_
  subst he
  exact ⟨_, rfl, _, _, _, [], _, [], hW', trodAll_mk1 (shut_bool Try.underlying4 _), (trodAll_cons_mk (Below.trod laidOut (by kernel_rfl) (of_decide_eq_true (by kernel_rfl)) k0 bel lt0) (trodAll_cons_mk (shut_string Try.underlying9 w1) (trodAll_cons_mk (shut_bool Try.underlying4 _) trodAll_mk0))), rfl, bel.frame _, fun h => by cases h⟩

theorem and_mk {a b : Bool} (ha : a = true) (hb : b = true) : (a && b) = true := by rw [ha, hb]; rfl
theorem lifted_fits : (Rows.fnGreatestMemberReadsQuotedMembersBackRow.lifted == Try.prog.liftsFinal) = true := by rw [Try.liftsFinal]; rfl
theorem make_fits : (Try.prog.make == some Rows.fnGreatestMemberReadsQuotedMembersBackRow.make) = true := by rw [Try.make]; rfl
theorem closed : joinedFacts Try.prog 4 Try.f4 Rows.fnGreatestMemberReadsQuotedMembersBackSpec Rows.fnGreatestMemberReadsQuotedMembersBackRow = true := by
  refine and_mk (and_mk (and_mk (and_mk (and_mk (and_mk (and_mk (and_mk (and_mk (and_mk (and_mk (and_mk (and_mk (and_mk (and_mk (and_mk (and_mk (and_mk (and_mk (and_mk (and_mk (and_mk (and_mk (and_mk (and_mk (and_mk (and_mk (and_mk (and_mk (and_mk (and_mk ?k1 ?k2) ?k3) ?k4) ?k5) ?k6) ?k7) ?k8) ?k9) ?k10) ?k11) ?k12) ?k13) ?k14) ?k15) ?k16) ?k17) ?k17b) ?k18) ?k19) ?k20) ?k21) ?k22) ?k23) ?k23b) ?k24) ?k24b) ?k24c) ?k25) ?k26) ?k27) ?k28
  case k24 => exact Try.mayEnter
  case k24b => exact lifted_fits
  case k24c => exact make_fits
  all_goals kernel_rfl

theorem over : Rows.fnGreatestMemberReadsQuotedMembersBackRow.holds Try.pinned (OpenSpec.ofChange Rows.fnGreatestMemberReadsQuotedMembersBackSpec) :=
  OpenClaim.holds_of_wide 4 Try.f4 rfl rfl rfl rfl rfl rfl rfl ⟨rfl, rfl, rfl, rfl, rfl⟩ rfl rfl rfl rfl rfl (by kernel_rfl) Try.func4 closed
    (of_decide_eq_true (by kernel_rfl)) (by unfold Func.isWrapper; first | (rw [if_pos (by decide +kernel)]; kernel_rfl) | (rw [if_neg (by decide +kernel)]; exact ⟨rfl, rfl⟩))
    (fun os started H enc _ => lifted os started H enc)

/-- THE STATEMENT. -/
theorem proved : Rows.FnGreatestMemberReadsQuotedMembersBackSaid := over
end Go.Proofs.Qxb6600799a.fnGreatestMemberReadsQuotedMembersBack
