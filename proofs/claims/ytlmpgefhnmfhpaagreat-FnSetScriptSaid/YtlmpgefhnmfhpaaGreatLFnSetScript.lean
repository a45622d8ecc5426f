/- laws.FnSetScript returns true for every input, and the input reads as it did: the row, proved; no conditions beyond the row's own. -/
import Derived.Test.YtlmpgefhnmfhpaaGreatWFnSetScriptd
import Derived.Test.YtlmpgefhnmfhpaaGreatRows
import Derived.OpenShut
set_option linter.unusedVariables false
set_option linter.unusedSimpArgs false
namespace Go.Proofs.YtlmpgefhnmfhpaaGreat
open Go.Proofs.YtlmpgefhnmfhpaaGreat.wFnSetScript Go Go.Sl Go.ChangeShapes Go.WideShapes Go.ChangeAt Go.RowKit
theorem Tryz.laidOut : laidOutB Tryz.prog = true := by kernel_rfl
set_option maxRecDepth 100000 in
theorem fnSetScript_lifted (os : Os) (started : os.Started) (H : Type) (enc : TypeId × Value → H) :
    ReturnsInHanded {} Tryz.checked os 6 .any (Rows.fnSetScriptSpec.pre6 enc Tryz.prog Tryz.f6 Rows.fnSetScriptRow.domain false) (Rows.fnSetScriptSpec.post enc Tryz.prog Tryz.f6 false true false false) := by
  refine returnsInHanded_of_change_sized (C := Tryz.checked) (by kernel_rfl) started (by kernel_rfl) Tryz.func6
    (ChangeSpec.witness6 (enc := enc) (C := Tryz.checked) false ⟨#[], #[.bool false, .slice none 0 0], []⟩ 8 (by kernel_rfl) (by kernel_rfl) (by kernel_rfl) (by kernel_rfl)) ?_
  intro W base args ds gs before hval0 hW hcnd hsz0 _
  have hsz : (DataW.weightsEach Tryz.prog (Tryz.f6.params.toList ++ Rows.fnSetScriptSpec.plain.varTypes Tryz.prog) (ds ++ gs)).all (· ≤ reachBytes) = true := hsz0
  have hval : ∀ (j : Nat) t v, Tryz.f6.params[j]? = some t → args[j]? = some v → Value.okWide Tryz.prog W .any base t v := hval0
  have hW' := hW
  obtain ⟨p, q, hA0, hV, rfl, hfz, hnd⟩ := hW
  have hA : DataW.TrodAll enc Tryz.prog W 0 (fun _ => true) true Tryz.f6.params.toList args.toList ds p := hA0
  rw [Tryz.params6] at hA hval hsz
  obtain ⟨v0, vs0, d0, ds0, p0, q0, hargs, rfl, rfl, h0, r0⟩ := trodAll_cons hA
  obtain ⟨v1, vs1, d1, ds1, p1, q1, rfl, rfl, rfl, h1, r1⟩ := trodAll_cons r0
  obtain ⟨rfl, rfl, rfl⟩ := trodAll_nil r1
  obtain rfl : args = #[v0, v1] := by cases args; simp_all
  obtain ⟨rfl, rfl⟩ := trodVars_none hV
  obtain ⟨x0, rfl, rfl, rfl⟩ := open_bool Tryz.underlying4 (hval 0 4 v0 rfl rfl) h0
  have lt1 := trod_lt' h1
  obtain ⟨l1, z10⟩ := open_sl (zn Tryz.underlying40 (by kernel_rfl) (by kernel_rfl) (by kernel_rfl) (by kernel_rfl) (by kernel_rfl) (by kernel_rfl) (by kernel_rfl) (by kernel_rfl) (YA.int Tryz.underlying3) (YA.int Tryz.underlying3) (YA.int Tryz.underlying3) (YA.int Tryz.underlying3) (YA.int Tryz.underlying3) (YA.slice (YA.int Tryz.underlying3) Tryz.underlying22 (by kernel_rfl) (of_decide_eq_true (by kernel_rfl)))) Tryz.underlying33 (by kernel_rfl) (of_decide_eq_true (by kernel_rfl)) hsz (j := 1) (t := 33) rfl rfl (hval 1 33 v1 rfl rfl) h1
  obtain ⟨l1, z1, w1⟩ := ssW z10
  refine (PuC.close (Gz z1)).mono fun e W' ⟨he, bel⟩ => ?_
  subst he
  exact ⟨_, rfl, _, _, _, [], _, [], hW', trodAll_mk1 (shut_bool Tryz.underlying4 _), (trodAll_cons_mk (shut_bool Tryz.underlying4 _) (trodAll_cons_mk (Below.trod Tryz.laidOut (by kernel_rfl) (of_decide_eq_true (by kernel_rfl)) h1 bel lt1) trodAll_mk0)), rfl, bel.frame _, fun h => by cases h⟩
/-- 'laws.FnSetScript' returns true for every input, and the input reads as it did; no conditions beyond the row's own. -/
theorem fnSetScript_holds : Rows.FnSetScriptSaid :=
  OpenClaim.holds_of_wide 6 Tryz.f6 rfl rfl rfl rfl rfl rfl rfl ⟨rfl, rfl, rfl, rfl, rfl⟩ rfl rfl rfl rfl rfl (by kernel_rfl) Tryz.func6 (by kernel_rfl)
    (of_decide_eq_true (by kernel_rfl)) (by unfold Func.isWrapper; first | (rw [if_pos (by decide +kernel)]; kernel_rfl) | (rw [if_neg (by decide +kernel)]; exact ⟨rfl, rfl⟩))
    (fun os started H enc _ => fnSetScript_lifted os started H enc)
#print axioms fnSetScript_holds
end Go.Proofs.YtlmpgefhnmfhpaaGreat
