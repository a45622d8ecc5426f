/- laws.FnRangeSteps returns true for every input, and the input reads as it did: the row, proved; no conditions beyond the row's own. -/
import Derived.Test.YtejfcglfjdfneaaWFnRangeStepsa
import Derived.Test.YtejfcglfjdfneaaRows
import Derived.OpenShut
set_option linter.unusedVariables false
set_option linter.unusedSimpArgs false
namespace Go.Proofs.Ytejfcglfjdfneaa
open Go.Proofs.Ytejfcglfjdfneaa.wFnRangeSteps Go Go.Sl Go.ChangeShapes Go.WideShapes Go.ChangeAt Go.RowKit
theorem Try.laidOut : laidOutB Try.prog = true := by kernel_rfl
set_option maxRecDepth 100000 in
theorem fnRangeSteps_lifted (os : Os) (started : os.Started) (H : Type) (enc : TypeId × Value → H) :
    ReturnsInHanded {} Try.checked os 3 .any (Rows.fnRangeStepsSpec.pre6 enc Try.prog Try.f3 Rows.fnRangeStepsRow.domain false) (Rows.fnRangeStepsSpec.post enc Try.prog Try.f3 false true false false) := by
  refine returnsInHanded_of_change_sized (C := Try.checked) (by kernel_rfl) started (by kernel_rfl) Try.func3
    (ChangeSpec.witness6 (enc := enc) (C := Try.checked) false ⟨#[], #[.int .i16 0, .int .i16 0, .int .i8 0], []⟩ 8 (by kernel_rfl) (by kernel_rfl) (by kernel_rfl) (by kernel_rfl)) ?_
  intro W base args ds gs before hval0 hW hcnd hsz0 _
  have hsz : (DataW.weightsEach Try.prog (Try.f3.params.toList ++ Rows.fnRangeStepsSpec.plain.varTypes Try.prog) (ds ++ gs)).all (· ≤ reachBytes) = true := hsz0
  have hval : ∀ (j : Nat) t v, Try.f3.params[j]? = some t → args[j]? = some v → Value.okWide Try.prog W .any base t v := hval0
  have hW' := hW
  obtain ⟨p, q, hA0, hV, rfl, hfz, hnd⟩ := hW
  have hA : DataW.TrodAll enc Try.prog W 0 (fun _ => true) true Try.f3.params.toList args.toList ds p := hA0
  rw [Try.params3] at hA hval hsz
  obtain ⟨v0, vs0, d0, ds0, p0, q0, hargs, rfl, rfl, h0, r0⟩ := trodAll_cons hA
  obtain ⟨v1, vs1, d1, ds1, p1, q1, rfl, rfl, rfl, h1, r1⟩ := trodAll_cons r0
  obtain ⟨v2, vs2, d2, ds2, p2, q2, rfl, rfl, rfl, h2, r2⟩ := trodAll_cons r1
  obtain ⟨rfl, rfl, rfl⟩ := trodAll_nil r2
  obtain rfl : args = #[v0, v1, v2] := by cases args; simp_all
  obtain ⟨rfl, rfl⟩ := trodVars_none hV
  obtain ⟨x0, rfl, rfl, rfl, w00⟩ := open_int Try.underlying22 (hval 0 22 v0 rfl rfl) h0
  have w0 := wf_i16 w00
  obtain ⟨x1, rfl, rfl, rfl, w10⟩ := open_int Try.underlying22 (hval 1 22 v1 rfl rfl) h1
  have w1 := wf_i16 w10
  obtain ⟨x2, rfl, rfl, rfl, w20⟩ := open_int Try.underlying23 (hval 2 23 v2 rfl rfl) h2
  have w2 := wf_i8 w20
  refine (PuC.close (laws_FnRangeSteps w0 w1 w2)).mono fun e W' ⟨he, bel⟩ => ?_
  subst he
  exact ⟨_, rfl, _, _, _, [], _, [], hW', trodAll_mk1 (shut_bool Try.underlying4 _), (trodAll_cons_mk (shut_int Try.underlying22 w00) (trodAll_cons_mk (shut_int Try.underlying22 w10) (trodAll_cons_mk (shut_int Try.underlying23 w20) trodAll_mk0))), rfl, bel.frame _, fun h => by cases h⟩
/-- 'laws.FnRangeSteps' returns true for every input, and the input reads as it did; no conditions beyond the row's own. -/
theorem fnRangeSteps_holds : Rows.FnRangeStepsSaid :=
  OpenClaim.holds_of_wide 3 Try.f3 rfl rfl rfl rfl rfl rfl rfl ⟨rfl, rfl, rfl, rfl, rfl⟩ rfl rfl rfl rfl rfl (by kernel_rfl) Try.func3 (by kernel_rfl)
    (of_decide_eq_true (by kernel_rfl)) (by unfold Func.isWrapper; first | (rw [if_pos (by decide +kernel)]; kernel_rfl) | (rw [if_neg (by decide +kernel)]; exact ⟨rfl, rfl⟩))
    (fun os started H enc _ => fnRangeSteps_lifted os started H enc)
#print axioms fnRangeSteps_holds
end Go.Proofs.Ytejfcglfjdfneaa
