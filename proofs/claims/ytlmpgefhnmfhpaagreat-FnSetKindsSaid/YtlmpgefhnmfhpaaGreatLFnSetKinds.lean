/- laws.FnSetKinds returns true for every input, and the input reads as it did: the row, proved; no conditions beyond the row's own. -/
import Derived.Test.YtlmpgefhnmfhpaaGreatWFnSetKindsd
import Derived.Test.YtlmpgefhnmfhpaaGreatRows
import Derived.OpenShut
set_option linter.unusedVariables false
set_option linter.unusedSimpArgs false
namespace Go.Proofs.YtlmpgefhnmfhpaaGreat
open Go.Proofs.YtlmpgefhnmfhpaaGreat.wFnSetKinds Go Go.Sl Go.ChangeShapes Go.WideShapes Go.ChangeAt Go.RowKit
theorem Tryz.laidOut : laidOutB Tryz.prog = true := by kernel_rfl
set_option maxRecDepth 100000 in
theorem fnSetKinds_lifted (os : Os) (started : os.Started) (H : Type) (enc : TypeId × Value → H) :
    ReturnsInHanded {} Tryz.checked os 5 .any (Rows.fnSetKindsSpec.pre6 enc Tryz.prog Tryz.f5 Rows.fnSetKindsRow.domain false) (Rows.fnSetKindsSpec.post enc Tryz.prog Tryz.f5 false true false false) := by
  refine returnsInHanded_of_change_sized (C := Tryz.checked) (by kernel_rfl) started (by kernel_rfl) Tryz.func5
    (ChangeSpec.witness6 (enc := enc) (C := Tryz.checked) false ⟨#[], #[.slice none 0 0], []⟩ 8 (by kernel_rfl) (by kernel_rfl) (by kernel_rfl) (by kernel_rfl)) ?_
  intro W base args ds gs before hval0 hW hcnd hsz0 _
  have hsz : (DataW.weightsEach Tryz.prog (Tryz.f5.params.toList ++ Rows.fnSetKindsSpec.plain.varTypes Tryz.prog) (ds ++ gs)).all (· ≤ reachBytes) = true := hsz0
  have hval : ∀ (j : Nat) t v, Tryz.f5.params[j]? = some t → args[j]? = some v → Value.okWide Tryz.prog W .any base t v := hval0
  have hW' := hW
  obtain ⟨p, q, hA0, hV, rfl, hfz, hnd⟩ := hW
  have hA : DataW.TrodAll enc Tryz.prog W 0 (fun _ => true) true Tryz.f5.params.toList args.toList ds p := hA0
  rw [Tryz.params5] at hA hval hsz
  obtain ⟨v0, vs0, d0, ds0, p0, q0, hargs, rfl, rfl, h0, r0⟩ := trodAll_cons hA
  obtain ⟨rfl, rfl, rfl⟩ := trodAll_nil r0
  obtain rfl : args = #[v0] := by cases args; simp_all
  obtain ⟨rfl, rfl⟩ := trodVars_none hV
  have lt0 := trod_lt' h0
  obtain ⟨l0, z00⟩ := open_sl (opens_struct6 Tryz.underlying40 (by kernel_rfl) (by kernel_rfl) (by kernel_rfl) (by kernel_rfl) (by kernel_rfl) (by kernel_rfl) (by kernel_rfl) (by kernel_rfl) (Opens.int Tryz.underlying3) (Opens.int Tryz.underlying3) (Opens.int Tryz.underlying3) (Opens.int Tryz.underlying3) (Opens.int Tryz.underlying3) (Opens.slice (Opens.int Tryz.underlying3) Tryz.underlying22 (by kernel_rfl) (of_decide_eq_true (by kernel_rfl)))) Tryz.underlying33 (by kernel_rfl) (of_decide_eq_true (by kernel_rfl)) hsz (j := 0) (t := 33) rfl rfl (hval 0 33 v0 rfl rfl) h0
  obtain ⟨l0, z0, w0⟩ := ssW z00
  refine (PuC.close (laws_FnSetKinds z0)).mono fun e W' ⟨he, bel⟩ => ?_
  subst he
  exact ⟨_, rfl, _, _, _, [], _, [], hW', trodAll_mk1 (shut_bool Tryz.underlying4 _), (trodAll_cons_mk (Below.trod Tryz.laidOut (by kernel_rfl) (of_decide_eq_true (by kernel_rfl)) h0 bel lt0) trodAll_mk0), rfl, bel.frame _, fun h => by cases h⟩
/-- 'laws.FnSetKinds' returns true for every input, and the input reads as it did; no conditions beyond the row's own. -/
theorem fnSetKinds_holds : Rows.FnSetKindsSaid :=
  OpenClaim.holds_of_wide 5 Tryz.f5 rfl rfl rfl rfl rfl rfl rfl ⟨rfl, rfl, rfl, rfl, rfl⟩ rfl rfl rfl rfl rfl (by kernel_rfl) Tryz.func5 (by kernel_rfl)
    (of_decide_eq_true (by kernel_rfl)) (by unfold Func.isWrapper; first | (rw [if_pos (by decide +kernel)]; kernel_rfl) | (rw [if_neg (by decide +kernel)]; exact ⟨rfl, rfl⟩))
    (fun os started H enc _ => fnSetKinds_lifted os started H enc)
#print axioms fnSetKinds_holds
end Go.Proofs.YtlmpgefhnmfhpaaGreat
