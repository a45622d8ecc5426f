import Derived.Test.YtgceicmfefpngaaGreatWFnScripte
import Derived.Test.YtgceicmfefpngaaGreatRows
import Derived.OpenShut
set_option linter.unusedVariables false
namespace Go.Proofs.YtgceicmfefpngaaGreat
open Go.Proofs.YtgceicmfefpngaaGreat.wFnScript Go Go.Sl Go.ChangeShapes Go.WideShapes Go.ChangeAt Go.RowKit
theorem Tryz.laidOut : laidOutB Tryz.prog = true := by kernel_rfl
set_option maxRecDepth 100000 in
theorem fnScript_lifted (os : Os) (started : os.Started) (H : Type) (enc : TypeId × Value → H) :
  ReturnsInHanded {} Tryz.checked os 3 .any (Rows.fnScriptSpec.pre6 enc Tryz.prog Tryz.f3 Rows.fnScriptRow.domain false) (Rows.fnScriptSpec.post enc Tryz.prog Tryz.f3 false true false false) := by
 refine returnsInHanded_of_change_sized (C := Tryz.checked) (by kernel_rfl) started (by kernel_rfl) Tryz.func3
  (ChangeSpec.witness6 (enc := enc) (C := Tryz.checked) false ⟨#[], #[.slice none 0 0, .slice none 0 0], []⟩ 8 (by kernel_rfl) (by kernel_rfl) (by kernel_rfl) (by kernel_rfl)) ?_
 intro W base args ds gs before hval0 hW hcnd hsz0 _
 have hsz : (DataW.weightsEach Tryz.prog (Tryz.f3.params.toList ++ Rows.fnScriptSpec.plain.varTypes Tryz.prog) (ds ++ gs)).all (· ≤ reachBytes) = true := hsz0
 have hval : ∀ (j : Nat) t v, Tryz.f3.params[j]? = some t → args[j]? = some v → Value.okWide Tryz.prog W .any base t v := hval0
 have hW' := hW
 obtain ⟨p, q, hA0, hV, rfl, hfz, hnd⟩ := hW
 have hA : DataW.TrodAll enc Tryz.prog W 0 (fun _ => true) true Tryz.f3.params.toList args.toList ds p := hA0
 rw [Tryz.params3] at hA hval hsz
 obtain ⟨v0, vs0, d0, ds0, p0, q0, hargs, rfl, rfl, h0, r0⟩ := trodAll_cons hA
 obtain ⟨v1, vs1, d1, ds1, p1, q1, rfl, rfl, rfl, h1, r1⟩ := trodAll_cons r0
 obtain ⟨rfl, rfl, rfl⟩ := trodAll_nil r1
 obtain rfl : args = #[v0, v1] := by cases args; simp_all
 obtain ⟨rfl, rfl⟩ := trodVars_none hV
 have lt0 := vp h0
 obtain ⟨l0, z00⟩ := open_sl (JK.int Tryz.underlying3) Tryz.underlying22 (by kernel_rfl) (of_decide_eq_true (by kernel_rfl)) hsz (j := 0) (t := 22) rfl rfl (hval 0 22 v0 rfl rfl) h0
 obtain ⟨l0, z0, w0⟩ := z00.intW
 have lt1 := vp h1
 obtain ⟨l1, z10⟩ := open_sl (jq Tryz.underlying32 (by kernel_rfl) (by kernel_rfl) (by kernel_rfl) (by kernel_rfl) (by kernel_rfl) (by kernel_rfl) (by kernel_rfl) (by kernel_rfl) (JK.int Tryz.underlying3) (JK.int Tryz.underlying3) (JK.int Tryz.underlying3) (JK.struct3 Tryz.underlying27 (by kernel_rfl) (by kernel_rfl) (by kernel_rfl) (by kernel_rfl) (by kernel_rfl) (JK.int Tryz.underlying3) (JK.int Tryz.underlying3) (JK.slice (JK.int Tryz.underlying3) Tryz.underlying22 (by kernel_rfl) (of_decide_eq_true (by kernel_rfl)))) (JK.struct2 Tryz.underlying30 (by kernel_rfl) (by kernel_rfl) (by kernel_rfl) (by kernel_rfl) (JK.int Tryz.underlying3) (JK.int Tryz.underlying3)) (JK.slice (JK.int Tryz.underlying3) Tryz.underlying22 (by kernel_rfl) (of_decide_eq_true (by kernel_rfl)))) Tryz.underlying23 (by kernel_rfl) (of_decide_eq_true (by kernel_rfl)) hsz (j := 1) (t := 23) rfl rfl (hval 1 23 v1 rfl rfl) h1
 obtain ⟨l1, z1, w1⟩ := stW z10
 refine (PuC.close (jB z0 z1 w0)).mono fun e W' ⟨he, bel⟩ => ?_
 subst he
 exact ⟨_, rfl, _, _, _, [], _, [], hW', trodAll_mk1 (shut_bool Tryz.underlying4 _), (trodAll_cons_mk (Below.trod Tryz.laidOut (by kernel_rfl) (of_decide_eq_true (by kernel_rfl)) h0 bel lt0) (trodAll_cons_mk (Below.trod Tryz.laidOut (by kernel_rfl) (of_decide_eq_true (by kernel_rfl)) h1 bel lt1) trodAll_mk0)), rfl, bel.frame _, fun h => by cases h⟩
theorem fnScript_holds : Rows.FnScriptSaid :=
 OpenClaim.holds_of_wide 3 Tryz.f3 rfl rfl rfl rfl rfl rfl rfl ⟨rfl, rfl, rfl, rfl, rfl⟩ rfl rfl rfl rfl rfl (by kernel_rfl) Tryz.func3 (by kernel_rfl)
  (of_decide_eq_true (by kernel_rfl)) (by unfold Func.isWrapper; first | (rw [if_pos (by decide +kernel)]; kernel_rfl) | (rw [if_neg (by decide +kernel)]; exact ⟨rfl, rfl⟩))
  (fun os started H enc _ => fnScript_lifted os started H enc)
#print axioms fnScript_holds
end Go.Proofs.YtgceicmfefpngaaGreat
