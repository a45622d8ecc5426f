/- laws.FnGroups returns true for every input, and the input reads as it did: the row, proved; no conditions beyond the row's own. -/
import Derived.Test.YtpncgdecfhfjmaaWFnGroupsc
import Derived.Test.YtpncgdecfhfjmaaRows
import Derived.OpenShut
set_option linter.unusedVariables false
set_option linter.unusedSimpArgs false
namespace Go.Proofs.Ytpncgdecfhfjmaa
open Go.Proofs.Ytpncgdecfhfjmaa.wFnGroups Go Go.Sl Go.ChangeShapes Go.WideShapes Go.ChangeAt Go.RowKit
theorem Try.laidOut : laidOutB Try.prog = true := by kernel_rfl
set_option maxRecDepth 100000 in
theorem fnGroups_lifted (os : Os) (started : os.Started) (H : Type) (enc : TypeId × Value → H) :
    ReturnsInHanded {} Try.checked os 5 .any (Rows.fnGroupsSpec.pre6 enc Try.prog Try.f5 Rows.fnGroupsRow.domain false) (Rows.fnGroupsSpec.post enc Try.prog Try.f5 false true false false) := by
  refine returnsInHanded_of_change_sized (C := Try.checked) (by kernel_rfl) started (by kernel_rfl) Try.func5
    (ChangeSpec.witness6 (enc := enc) (C := Try.checked) false ⟨#[], #[.slice none 0 0, .agg #[.int .i64 0, .int .i64 0]], []⟩ 8 (by kernel_rfl) (by kernel_rfl) (by kernel_rfl) (by kernel_rfl)) ?_
  intro W base args ds gs before hval0 hW hcnd hsz0 _
  have hsz : (DataW.weightsEach Try.prog (Try.f5.params.toList ++ Rows.fnGroupsSpec.plain.varTypes Try.prog) (ds ++ gs)).all (· ≤ reachBytes) = true := hsz0
  have hval : ∀ (j : Nat) t v, Try.f5.params[j]? = some t → args[j]? = some v → Value.okWide Try.prog W .any base t v := hval0
  have hW' := hW
  obtain ⟨p, q, hA0, hV, rfl, hfz, hnd⟩ := hW
  have hA : DataW.TrodAll enc Try.prog W 0 (fun _ => true) true Try.f5.params.toList args.toList ds p := hA0
  rw [Try.params5] at hA hval hsz
  obtain ⟨v0, vs0, d0, ds0, p0, q0, hargs, rfl, rfl, h0, r0⟩ := trodAll_cons hA
  obtain ⟨v1, vs1, d1, ds1, p1, q1, rfl, rfl, rfl, h1, r1⟩ := trodAll_cons r0
  obtain ⟨rfl, rfl, rfl⟩ := trodAll_nil r1
  obtain rfl : args = #[v0, v1] := by cases args; simp_all
  obtain ⟨rfl, rfl⟩ := trodVars_none hV
  have lt0 := trod_lt' h0
  obtain ⟨l0, z00⟩ := open_sl (Opens.int Try.underlying3) Try.underlying22 (by kernel_rfl) (of_decide_eq_true (by kernel_rfl)) hsz (j := 0) (t := 22) rfl rfl (hval 0 22 v0 rfl rfl) h0
  obtain ⟨l0, z0, w0⟩ := z00.intW
  have lt1 := trod_lt' h1
  obtain ⟨cs1, xx1, rfl, zz1⟩ := open_agg (Opens.struct2 Try.underlying24 (by kernel_rfl) (by kernel_rfl) (by kernel_rfl) (by kernel_rfl) (Opens.int Try.underlying3) (Opens.int Try.underlying3)) Try.underlying24 hsz (j := 1) (t := 24) rfl rfl (hval 1 24 v1 rfl rfl) h1
  obtain ⟨pk1, pn1, rfl, y1, yk1⟩ := open_key zz1
  refine (PuC.close (laws_FnGroups z0 y1 w0)).mono fun e W' ⟨he, bel⟩ => ?_
  subst he
  exact ⟨_, rfl, _, _, _, [], _, [], hW', trodAll_mk1 (shut_bool Try.underlying4 _), (trodAll_cons_mk (Below.trod Try.laidOut (by kernel_rfl) (of_decide_eq_true (by kernel_rfl)) h0 bel lt0) (trodAll_cons_mk (Below.trod Try.laidOut (by kernel_rfl) (of_decide_eq_true (by kernel_rfl)) h1 bel lt1) trodAll_mk0)), rfl, bel.frame _, fun h => by cases h⟩
/-- 'laws.FnGroups' returns true for every input, and the input reads as it did; no conditions beyond the row's own. -/
theorem fnGroups_holds : Rows.FnGroupsSaid :=
  OpenClaim.holds_of_wide 5 Try.f5 rfl rfl rfl rfl rfl rfl rfl ⟨rfl, rfl, rfl, rfl, rfl⟩ rfl rfl rfl rfl rfl (by kernel_rfl) Try.func5 (by kernel_rfl)
    (of_decide_eq_true (by kernel_rfl)) (by unfold Func.isWrapper; first | (rw [if_pos (by decide +kernel)]; kernel_rfl) | (rw [if_neg (by decide +kernel)]; exact ⟨rfl, rfl⟩))
    (fun os started H enc _ => fnGroups_lifted os started H enc)
#print axioms fnGroups_holds
end Go.Proofs.Ytpncgdecfhfjmaa
