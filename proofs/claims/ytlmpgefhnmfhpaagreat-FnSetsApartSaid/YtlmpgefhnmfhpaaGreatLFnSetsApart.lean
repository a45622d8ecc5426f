/- laws.FnSetsApart returns true for every input, and the input reads as it did: the row, proved; no conditions beyond the row's own. -/
import Derived.Test.YtlmpgefhnmfhpaaGreatWFnSetsApartd
import Derived.Test.YtlmpgefhnmfhpaaGreatRows
import Derived.OpenShut
set_option linter.unusedVariables false
set_option linter.unusedSimpArgs false
namespace Go.Proofs.YtlmpgefhnmfhpaaGreat
open Go.Proofs.YtlmpgefhnmfhpaaGreat.wFnSetsApart Go Go.Sl Go.ChangeShapes Go.WideShapes Go.ChangeAt Go.RowKit
theorem Tryz.laidOut : laidOutB Tryz.prog = true := by kernel_rfl
set_option maxRecDepth 100000 in
theorem fnSetsApart_lifted (os : Os) (started : os.Started) (H : Type) (enc : TypeId × Value → H) :
    ReturnsInHanded {} Tryz.checked os 7 .any (Rows.fnSetsApartSpec.pre6 enc Tryz.prog Tryz.f7 Rows.fnSetsApartRow.domain false) (Rows.fnSetsApartSpec.post enc Tryz.prog Tryz.f7 false true false false) := by
  refine returnsInHanded_of_change_sized (C := Tryz.checked) (by kernel_rfl) started (by kernel_rfl) Tryz.func7
    (ChangeSpec.witness6 (enc := enc) (C := Tryz.checked) false ⟨#[], #[.bool false, .slice none 0 0, .slice none 0 0, .int .i64 0], []⟩ 8 (by kernel_rfl) (by kernel_rfl) (by kernel_rfl) (by kernel_rfl)) ?_
  intro W base args ds gs before hval0 hW hcnd hsz0 _
  have hsz : (DataW.weightsEach Tryz.prog (Tryz.f7.params.toList ++ Rows.fnSetsApartSpec.plain.varTypes Tryz.prog) (ds ++ gs)).all (· ≤ reachBytes) = true := hsz0
  have hval : ∀ (j : Nat) t v, Tryz.f7.params[j]? = some t → args[j]? = some v → Value.okWide Tryz.prog W .any base t v := hval0
  have hW' := hW
  obtain ⟨p, q, hA0, hV, rfl, hfz, hnd⟩ := hW
  have hA : DataW.TrodAll enc Tryz.prog W 0 (fun _ => true) true Tryz.f7.params.toList args.toList ds p := hA0
  rw [Tryz.params7] at hA hval hsz
  obtain ⟨v0, vs0, d0, ds0, p0, q0, hargs, rfl, rfl, h0, r0⟩ := trodAll_cons hA
  obtain ⟨v1, vs1, d1, ds1, p1, q1, rfl, rfl, rfl, h1, r1⟩ := trodAll_cons r0
  obtain ⟨v2, vs2, d2, ds2, p2, q2, rfl, rfl, rfl, h2, r2⟩ := trodAll_cons r1
  obtain ⟨v3, vs3, d3, ds3, p3, q3, rfl, rfl, rfl, h3, r3⟩ := trodAll_cons r2
  obtain ⟨rfl, rfl, rfl⟩ := trodAll_nil r3
  obtain rfl : args = #[v0, v1, v2, v3] := by cases args; simp_all
  obtain ⟨rfl, rfl⟩ := trodVars_none hV
  obtain ⟨x0, rfl, rfl, rfl⟩ := open_bool Tryz.underlying4 (hval 0 4 v0 rfl rfl) h0
  have lt1 := trod_lt' h1
  obtain ⟨l1, z10⟩ := open_sl (Opens.int Tryz.underlying3) Tryz.underlying22 (by kernel_rfl) (of_decide_eq_true (by kernel_rfl)) hsz (j := 1) (t := 22) rfl rfl (hval 1 22 v1 rfl rfl) h1
  obtain ⟨l1, z1, w1⟩ := z10.intW
  have lt2 := trod_lt' h2
  obtain ⟨l2, z20⟩ := open_sl (Opens.int Tryz.underlying3) Tryz.underlying22 (by kernel_rfl) (of_decide_eq_true (by kernel_rfl)) hsz (j := 2) (t := 22) rfl rfl (hval 2 22 v2 rfl rfl) h2
  obtain ⟨l2, z2, w2⟩ := z20.intW
  obtain ⟨x3, rfl, rfl, rfl, w30⟩ := open_int Tryz.underlying3 (hval 3 3 v3 rfl rfl) h3
  have w3 := wf_i64 w30
  refine (PuC.close (laws_FnSetsApart z1 z2)).mono fun e W' ⟨he, bel⟩ => ?_
  subst he
  exact ⟨_, rfl, _, _, _, [], _, [], hW', trodAll_mk1 (shut_bool Tryz.underlying4 _), (trodAll_cons_mk (shut_bool Tryz.underlying4 _) (trodAll_cons_mk (Below.trod Tryz.laidOut (by kernel_rfl) (of_decide_eq_true (by kernel_rfl)) h1 bel lt1) (trodAll_cons_mk (Below.trod Tryz.laidOut (by kernel_rfl) (of_decide_eq_true (by kernel_rfl)) h2 bel lt2) (trodAll_cons_mk (shut_int Tryz.underlying3 w30) trodAll_mk0)))), rfl, bel.frame _, fun h => by cases h⟩
/-- 'laws.FnSetsApart' returns true for every input, and the input reads as it did; no conditions beyond the row's own. -/
theorem fnSetsApart_holds : Rows.FnSetsApartSaid :=
  OpenClaim.holds_of_wide 7 Tryz.f7 rfl rfl rfl rfl rfl rfl rfl ⟨rfl, rfl, rfl, rfl, rfl⟩ rfl rfl rfl rfl rfl (by kernel_rfl) Tryz.func7 (by kernel_rfl)
    (of_decide_eq_true (by kernel_rfl)) (by unfold Func.isWrapper; first | (rw [if_pos (by decide +kernel)]; kernel_rfl) | (rw [if_neg (by decide +kernel)]; exact ⟨rfl, rfl⟩))
    (fun os started H enc _ => fnSetsApart_lifted os started H enc)
#print axioms fnSetsApart_holds
end Go.Proofs.YtlmpgefhnmfhpaaGreat
