/- laws.FnGroupsMapped returns true for every input, and the input reads as it did: the row, proved; no conditions beyond the row's own. -/
import Derived.Test.YtpncgdecfhfjmaaWFnGroupsMappedc
import Derived.Test.YtpncgdecfhfjmaaRows
import Derived.OpenShut
set_option linter.unusedVariables false
set_option linter.unusedSimpArgs false
namespace Go.Proofs.Ytpncgdecfhfjmaa
open Go.Proofs.Ytpncgdecfhfjmaa.wFnGroupsMapped Go Go.Sl Go.ChangeShapes Go.WideShapes Go.ChangeAt Go.RowKit
theorem Try.laidOut : laidOutB Try.prog = true := by kernel_rfl
set_option maxRecDepth 100000 in
theorem fnGroupsMapped_lifted (os : Os) (started : os.Started) (H : Type) (enc : TypeId × Value → H) :
    ReturnsInHanded {} Try.checked os 4 .any (Rows.fnGroupsMappedSpec.pre6 enc Try.prog Try.f4 Rows.fnGroupsMappedRow.domain false) (Rows.fnGroupsMappedSpec.post enc Try.prog Try.f4 false true false false) := by
  refine returnsInHanded_of_change_sized (C := Try.checked) (by kernel_rfl) started (by kernel_rfl) Try.func4
    (ChangeSpec.witness6 (enc := enc) (C := Try.checked) false ⟨#[], #[.slice none 0 0, .agg #[.int .i64 0, .int .i64 0], .agg #[.int .i64 0, .int .i64 0]], []⟩ 8 (by kernel_rfl) (by kernel_rfl) (by kernel_rfl) (by kernel_rfl)) ?_
  intro W base args ds gs before hval0 hW hcnd hsz0 _
  have hsz : (DataW.weightsEach Try.prog (Try.f4.params.toList ++ Rows.fnGroupsMappedSpec.plain.varTypes Try.prog) (ds ++ gs)).all (· ≤ reachBytes) = true := hsz0
  have hval : ∀ (j : Nat) t v, Try.f4.params[j]? = some t → args[j]? = some v → Value.okWide Try.prog W .any base t v := hval0
  have hW' := hW
  obtain ⟨p, q, hA0, hV, rfl, hfz, hnd⟩ := hW
  have hA : DataW.TrodAll enc Try.prog W 0 (fun _ => true) true Try.f4.params.toList args.toList ds p := hA0
  rw [Try.params4] at hA hval hsz
  obtain ⟨v0, vs0, d0, ds0, p0, q0, hargs, rfl, rfl, h0, r0⟩ := trodAll_cons hA
  obtain ⟨v1, vs1, d1, ds1, p1, q1, rfl, rfl, rfl, h1, r1⟩ := trodAll_cons r0
  obtain ⟨v2, vs2, d2, ds2, p2, q2, rfl, rfl, rfl, h2, r2⟩ := trodAll_cons r1
  obtain ⟨rfl, rfl, rfl⟩ := trodAll_nil r2
  obtain rfl : args = #[v0, v1, v2] := by cases args; simp_all
  obtain ⟨rfl, rfl⟩ := trodVars_none hV
  have lt0 := trod_lt' h0
  obtain ⟨l0, z00⟩ := open_sl (Opens.int Try.underlying3) Try.underlying22 (by kernel_rfl) (of_decide_eq_true (by kernel_rfl)) hsz (j := 0) (t := 22) rfl rfl (hval 0 22 v0 rfl rfl) h0
  obtain ⟨l0, z0, w0⟩ := z00.intW
  have lt1 := trod_lt' h1
  obtain ⟨cs1, xx1, rfl, zz1⟩ := open_agg (Opens.struct2 Try.underlying24 (by kernel_rfl) (by kernel_rfl) (by kernel_rfl) (by kernel_rfl) (Opens.int Try.underlying3) (Opens.int Try.underlying3)) Try.underlying24 hsz (j := 1) (t := 24) rfl rfl (hval 1 24 v1 rfl rfl) h1
  obtain ⟨pk1, pn1, rfl, y1, yk1⟩ := open_key zz1
  have lt2 := trod_lt' h2
  obtain ⟨cs2, xx2, rfl, zz2⟩ := open_agg (Opens.struct2 Try.underlying24 (by kernel_rfl) (by kernel_rfl) (by kernel_rfl) (by kernel_rfl) (Opens.int Try.underlying3) (Opens.int Try.underlying3)) Try.underlying24 hsz (j := 2) (t := 24) rfl rfl (hval 2 24 v2 rfl rfl) h2
  obtain ⟨pk2, pn2, rfl, y2, yk2⟩ := open_key zz2
  refine (PuC.close (laws_FnGroupsMapped z0 y1 y2 w0)).mono fun e W' ⟨he, bel⟩ => ?_
  subst he
  exact ⟨_, rfl, _, _, _, [], _, [], hW', trodAll_mk1 (shut_bool Try.underlying4 _), (trodAll_cons_mk (Below.trod Try.laidOut (by kernel_rfl) (of_decide_eq_true (by kernel_rfl)) h0 bel lt0) (trodAll_cons_mk (Below.trod Try.laidOut (by kernel_rfl) (of_decide_eq_true (by kernel_rfl)) h1 bel lt1) (trodAll_cons_mk (Below.trod Try.laidOut (by kernel_rfl) (of_decide_eq_true (by kernel_rfl)) h2 bel lt2) trodAll_mk0))), rfl, bel.frame _, fun h => by cases h⟩
/-- 'laws.FnGroupsMapped' returns true for every input, and the input reads as it did; no conditions beyond the row's own. -/
theorem fnGroupsMapped_holds : Rows.FnGroupsMappedSaid :=
  OpenClaim.holds_of_wide 4 Try.f4 rfl rfl rfl rfl rfl rfl rfl ⟨rfl, rfl, rfl, rfl, rfl⟩ rfl rfl rfl rfl rfl (by kernel_rfl) Try.func4 (by kernel_rfl)
    (of_decide_eq_true (by kernel_rfl)) (by unfold Func.isWrapper; first | (rw [if_pos (by decide +kernel)]; kernel_rfl) | (rw [if_neg (by decide +kernel)]; exact ⟨rfl, rfl⟩))
    (fun os started H enc _ => fnGroupsMapped_lifted os started H enc)
#print axioms fnGroupsMapped_holds
end Go.Proofs.Ytpncgdecfhfjmaa
