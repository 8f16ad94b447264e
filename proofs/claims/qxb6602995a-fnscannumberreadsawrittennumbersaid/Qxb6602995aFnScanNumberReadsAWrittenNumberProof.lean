/- The proof of 'Rows.FnScanNumberReadsAWrittenNumberSaid': the frame is the guide's shell for this law; the walk lies in Qxb6602995aNumRead. The row's closed facts are proved one by one (Qxb6602995aFacts says why). -/
import Derived.Test.Qxb6602995aRows
import Derived.Test.Qxb6602995aFacts
import Derived.Test.Qxb6602995aNumRead
import Derived.WalkKit
import Derived.ProofKit
import Derived.OpenShut
import Derived.ShutString
namespace Go.Proofs.Qxb6602995a.fnScanNumberReadsAWrittenNumber
open Go.ChangeShapes Go.WideShapes Go.ChangeAt Go.RowKit
open Go.ChangeMaps (open_string shut_string)
set_option linter.unusedVariables false      -- a walk need not use every 'w<i>' (that an integer argument fits its kind)

theorem own : ownKnob Try.prog.godebug = none := by kernel_rfl

theorem walk (a0 : ByteArray) (a1 : Int) (a2 : Bool) (a3 : Int) (a4 : Int) (a5 : Bool) (a6 : Bool) (a7 : Bool) (a8 : Int) (a9 : ByteArray) (w0 : a0.size ≤ maxLen) (w1 : (Lit.int .i64 a1).wf = true) (w3 : (Lit.int .u8 a3).wf = true) (w4 : (Lit.int .u32 a4).wf = true) (w8 : (Lit.int .i16 a8).wf = true) (w9 : a9.size ≤ maxLen) (w : World) :
    Calls Try.prog 7 #[.string a0, .int .i64 a1, .bool a2, .int .u8 a3, .int .u32 a4, .bool a5, .bool a6, .bool a7, .int .i16 a8, .string a9] w fun e w' => e = .returned (.bool true) ∧ Below w.heap.size w w' :=
  numRead_walk a0 a1 a2 a3 a4 a5 a6 a7 a8 a9 w0 w1 w3 w4 w8 w9 w

set_option maxRecDepth 100000 in
theorem lifted (os : Os) (started : os.Started) (H : Type) (enc : TypeId × Value → H) :
    ReturnsInHanded {} Try.checked os 7 .any (Rows.fnScanNumberReadsAWrittenNumberSpec.pre6 enc Try.prog Try.f7 Rows.fnScanNumberReadsAWrittenNumberRow.domain false) (Rows.fnScanNumberReadsAWrittenNumberSpec.post enc Try.prog Try.f7 false true false false) := by
  refine returnsInHanded_of_change (C := Try.checked) own started (by kernel_rfl) Try.func7
    (ChangeSpec.witness6 (enc := enc) (C := Try.checked) false ⟨#[], #[.string ByteArray.empty, .int .i64 0, .bool false, .int .u8 0, .int .u32 0, .bool false, .bool false, .bool false, .int .i16 0, .string ByteArray.empty], []⟩ 8 (by kernel_rfl) (by kernel_rfl) (by kernel_rfl) (by kernel_rfl)) ?_
  intro W base args ds gs before hval0 hW hcnd _
  have hval : ∀ (j : Nat) t v, Try.f7.params[j]? = some t → args[j]? = some v → Value.okWide Try.prog W .any base t v := hval0
  have hW' := hW
  obtain ⟨p, q, hA0, hV, rfl, hfz, hnd⟩ := hW
  have hA : DataW.TrodAll enc Try.prog W 0 (fun _ => true) true Try.f7.params.toList args.toList ds p := hA0
  rw [Try.params7] at hA hval
  obtain ⟨v0, vs0, d0, ds0, p0, q0, hargs, rfl, rfl, h0, r0⟩ := trodAll_cons hA
  obtain ⟨v1, vs1, d1, ds1, p1, q1, rfl, rfl, rfl, h1, r1⟩ := trodAll_cons r0
  obtain ⟨v2, vs2, d2, ds2, p2, q2, rfl, rfl, rfl, h2, r2⟩ := trodAll_cons r1
  obtain ⟨v3, vs3, d3, ds3, p3, q3, rfl, rfl, rfl, h3, r3⟩ := trodAll_cons r2
  obtain ⟨v4, vs4, d4, ds4, p4, q4, rfl, rfl, rfl, h4, r4⟩ := trodAll_cons r3
  obtain ⟨v5, vs5, d5, ds5, p5, q5, rfl, rfl, rfl, h5, r5⟩ := trodAll_cons r4
  obtain ⟨v6, vs6, d6, ds6, p6, q6, rfl, rfl, rfl, h6, r6⟩ := trodAll_cons r5
  obtain ⟨v7, vs7, d7, ds7, p7, q7, rfl, rfl, rfl, h7, r7⟩ := trodAll_cons r6
  obtain ⟨v8, vs8, d8, ds8, p8, q8, rfl, rfl, rfl, h8, r8⟩ := trodAll_cons r7
  obtain ⟨v9, vs9, d9, ds9, p9, q9, rfl, rfl, rfl, h9, r9⟩ := trodAll_cons r8
  obtain ⟨rfl, rfl, rfl⟩ := trodAll_nil r9
  obtain rfl : args = #[v0, v1, v2, v3, v4, v5, v6, v7, v8, v9] := by cases args; simp_all
  obtain ⟨rfl, rfl⟩ := trodVars_none hV
  obtain ⟨a0, rfl, rfl, rfl, w0⟩ := open_string Try.underlying9 (hval 0 9 v0 rfl rfl) h0
  obtain ⟨a1, rfl, rfl, rfl, w1⟩ := open_int Try.underlying2 (hval 1 2 v1 rfl rfl) h1
  obtain ⟨a2, rfl, rfl, rfl⟩ := open_bool Try.underlying4 (hval 2 4 v2 rfl rfl) h2
  obtain ⟨a3, rfl, rfl, rfl, w3⟩ := open_int Try.underlying5 (hval 3 5 v3 rfl rfl) h3
  obtain ⟨a4, rfl, rfl, rfl, w4⟩ := open_int Try.underlying33 (hval 4 33 v4 rfl rfl) h4
  obtain ⟨a5, rfl, rfl, rfl⟩ := open_bool Try.underlying4 (hval 5 4 v5 rfl rfl) h5
  obtain ⟨a6, rfl, rfl, rfl⟩ := open_bool Try.underlying4 (hval 6 4 v6 rfl rfl) h6
  obtain ⟨a7, rfl, rfl, rfl⟩ := open_bool Try.underlying4 (hval 7 4 v7 rfl rfl) h7
  obtain ⟨a8, rfl, rfl, rfl, w8⟩ := open_int Try.underlying34 (hval 8 34 v8 rfl rfl) h8
  obtain ⟨a9, rfl, rfl, rfl, w9⟩ := open_string Try.underlying9 (hval 9 9 v9 rfl rfl) h9
  clear hA0 hval0
  simp only [List.append_nil] at hW'
  refine (walk a0 a1 a2 a3 a4 a5 a6 a7 a8 a9 w0 w1 w3 w4 w8 w9 W).mono fun e W' ⟨he, bel⟩ => ?_
  subst he
  exact ⟨_, rfl, _, _, _, [], [], [], hW', trodAll_mk1 (shut_bool Try.underlying4 _), (trodAll_cons_mk (shut_string Try.underlying9 w0) (trodAll_cons_mk (shut_int Try.underlying2 w1) (trodAll_cons_mk (shut_bool Try.underlying4 _) (trodAll_cons_mk (shut_int Try.underlying5 w3) (trodAll_cons_mk (shut_int Try.underlying33 w4) (trodAll_cons_mk (shut_bool Try.underlying4 _) (trodAll_cons_mk (shut_bool Try.underlying4 _) (trodAll_cons_mk (shut_bool Try.underlying4 _) (trodAll_cons_mk (shut_int Try.underlying34 w8) (trodAll_cons_mk (shut_string Try.underlying9 w9) trodAll_mk0)))))))))), rfl, bel.frame _, fun h => by cases h⟩

theorem and_mk {a b : Bool} (ha : a = true) (hb : b = true) : (a && b) = true := by rw [ha, hb]; rfl
theorem lifted_fits : (Rows.fnScanNumberReadsAWrittenNumberRow.lifted == Try.prog.liftsFinal) = true := by rw [Try.liftsFinal]; rfl
theorem make_fits : (Try.prog.make == some Rows.fnScanNumberReadsAWrittenNumberRow.make) = true := by rw [Try.make]; rfl
theorem closed : joinedFacts Try.prog 7 Try.f7 Rows.fnScanNumberReadsAWrittenNumberSpec Rows.fnScanNumberReadsAWrittenNumberRow = true := by
  refine and_mk (and_mk (and_mk (and_mk (and_mk (and_mk (and_mk (and_mk (and_mk (and_mk (and_mk (and_mk (and_mk (and_mk (and_mk (and_mk (and_mk (and_mk (and_mk (and_mk (and_mk (and_mk (and_mk (and_mk (and_mk (and_mk (and_mk (and_mk (and_mk (and_mk (and_mk ?k1 ?k2) ?k3) ?k4) ?k5) ?k6) ?k7) ?k8) ?k9) ?k10) ?k11) ?k12) ?k13) ?k14) ?k15) ?k16) ?k17) ?k17b) ?k18) ?k19) ?k20) ?k21) ?k22) ?k23) ?k23b) ?k24) ?k24b) ?k24c) ?k25) ?k26) ?k27) ?k28
  case k24 => exact Try.mayEnter
  case k24b => exact lifted_fits
  case k24c => exact make_fits
  all_goals kernel_rfl

theorem over : Rows.fnScanNumberReadsAWrittenNumberRow.holds Try.pinned (OpenSpec.ofChange Rows.fnScanNumberReadsAWrittenNumberSpec) :=
  OpenClaim.holds_of_wide 7 Try.f7 rfl rfl rfl rfl rfl rfl rfl ⟨rfl, rfl, rfl, rfl, rfl⟩ rfl rfl rfl rfl rfl (by kernel_rfl) Try.func7 closed
    (of_decide_eq_true (by kernel_rfl)) (by unfold Func.isWrapper; first | (rw [if_pos (by decide +kernel)]; kernel_rfl) | (rw [if_neg (by decide +kernel)]; exact ⟨rfl, rfl⟩))
    (fun os started H enc _ => lifted os started H enc)

/-- THE STATEMENT. -/
theorem proved : Rows.FnScanNumberReadsAWrittenNumberSaid :=
  over
end Go.Proofs.Qxb6602995a.fnScanNumberReadsAWrittenNumber
