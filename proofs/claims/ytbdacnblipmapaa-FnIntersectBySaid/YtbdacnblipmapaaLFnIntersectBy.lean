/- laws.FnIntersectBy returns true for every input, and the input reads as it did: the row, proved; no conditions beyond the row's own. -/
import Derived.Test.YtbdacnblipmapaaWFnIntersectByb
import Derived.Test.YtbdacnblipmapaaRows
import Derived.OpenShut
set_option linter.unusedVariables false
set_option linter.unusedSimpArgs false
namespace Go.Proofs.Ytbdacnblipmapaa
open Go.Proofs.Ytbdacnblipmapaa.wFnIntersectBy Go Go.Sl Go.ChangeShapes Go.WideShapes Go.ChangeAt Go.RowKit
theorem Try.laidOut : laidOutB Try.prog = true := by kernel_rfl
set_option maxRecDepth 100000 in
theorem fnIntersectBy_lifted (os : Os) (started : os.Started) (H : Type) (enc : TypeId × Value → H) :
    ReturnsInHanded {} Try.checked os 4 .any (Rows.fnIntersectBySpec.pre6 enc Try.prog Try.f4 Rows.fnIntersectByRow.domain false) (Rows.fnIntersectBySpec.post enc Try.prog Try.f4 false true false false) := by
  refine returnsInHanded_of_change_sized (C := Try.checked) (by kernel_rfl) started (by kernel_rfl) Try.func4
    (ChangeSpec.witness6 (enc := enc) (C := Try.checked) false ⟨#[], #[.agg #[.int .i64 0, .int .i64 0], .slice none 0 0, .slice none 0 0], []⟩ 8 (by kernel_rfl) (by kernel_rfl) (by kernel_rfl) (by kernel_rfl)) ?_
  intro W base args ds gs before hval0 hW hcnd hsz0 _
  have hsz : (DataW.weightsEach Try.prog (Try.f4.params.toList ++ Rows.fnIntersectBySpec.plain.varTypes Try.prog) (ds ++ gs)).all (· ≤ reachBytes) = true := hsz0
  have hval : ∀ (j : Nat) t v, Try.f4.params[j]? = some t → args[j]? = some v → Value.okWide Try.prog W .any base t v := hval0
  have hW' := hW
  obtain ⟨p, q, hA0, hV, rfl, hfz, hnd⟩ := hW
  have hA : DataW.TrodAll enc Try.prog W 0 (fun _ => true) true Try.f4.params.toList args.toList ds p := hA0
  rw [Try.params4] at hA hval hsz
  obtain ⟨v0, vs0, d0, ds0, p0, q0, hargs, rfl, rfl, h0, r0⟩ := trodAll_cons hA
  obtain ⟨v1, vs1, d1, ds1, p1, q1, rfl, rfl, rfl, h1, r1⟩ := trodAll_cons r0
  obtain ⟨v2, vs2, d2, ds2, p2, q2, rfl, rfl, rfl, h2, r2⟩ := trodAll_cons r1
  obtain ⟨rfl, rfl, rfl⟩ := trodAll_nil r2
  obtain rfl : args = #[v0, v1, v2] := by cases args; simp_all
  obtain ⟨rfl, rfl⟩ := trodVars_none hV
  have lt0 := trod_lt' h0
  obtain ⟨cs0, xx0, rfl, zz0⟩ := open_agg (Opens.struct2 Try.underlying31 (by kernel_rfl) (by kernel_rfl) (by kernel_rfl) (by kernel_rfl) (Opens.int Try.underlying3) (Opens.int Try.underlying3)) Try.underlying31 hsz (j := 0) (t := 31) rfl rfl (hval 0 31 v0 rfl rfl) h0
  obtain ⟨pk0, pn0, rfl, y0, yk0⟩ := open_key zz0
  have lt1 := trod_lt' h1
  obtain ⟨l1, z10⟩ := open_sl (Opens.int Try.underlying3) Try.underlying24 (by kernel_rfl) (of_decide_eq_true (by kernel_rfl)) hsz (j := 1) (t := 24) rfl rfl (hval 1 24 v1 rfl rfl) h1
  obtain ⟨l1, z1, w1⟩ := z10.intW
  have lt2 := trod_lt' h2
  obtain ⟨l2, z20⟩ := open_sl (Opens.int Try.underlying3) Try.underlying24 (by kernel_rfl) (of_decide_eq_true (by kernel_rfl)) hsz (j := 2) (t := 24) rfl rfl (hval 2 24 v2 rfl rfl) h2
  obtain ⟨l2, z2, w2⟩ := z20.intW
  refine (PuC.close (laws_FnIntersectBy y0 z1 z2)).mono fun e W' ⟨he, bel⟩ => ?_
  subst he
  exact ⟨_, rfl, _, _, _, [], _, [], hW', trodAll_mk1 (shut_bool Try.underlying4 _), (trodAll_cons_mk (Below.trod Try.laidOut (by kernel_rfl) (of_decide_eq_true (by kernel_rfl)) h0 bel lt0) (trodAll_cons_mk (Below.trod Try.laidOut (by kernel_rfl) (of_decide_eq_true (by kernel_rfl)) h1 bel lt1) (trodAll_cons_mk (Below.trod Try.laidOut (by kernel_rfl) (of_decide_eq_true (by kernel_rfl)) h2 bel lt2) trodAll_mk0))), rfl, bel.frame _, fun h => by cases h⟩
/-- 'laws.FnIntersectBy' returns true for every input, and the input reads as it did; no conditions beyond the row's own. -/
theorem fnIntersectBy_holds : Rows.FnIntersectBySaid :=
  OpenClaim.holds_of_wide 4 Try.f4 rfl rfl rfl rfl rfl rfl rfl ⟨rfl, rfl, rfl, rfl, rfl⟩ rfl rfl rfl rfl rfl (by kernel_rfl) Try.func4 (by kernel_rfl)
    (of_decide_eq_true (by kernel_rfl)) (by unfold Func.isWrapper; first | (rw [if_pos (by decide +kernel)]; kernel_rfl) | (rw [if_neg (by decide +kernel)]; exact ⟨rfl, rfl⟩))
    (fun os started H enc _ => fnIntersectBy_lifted os started H enc)
#print axioms fnIntersectBy_holds
end Go.Proofs.Ytbdacnblipmapaa
