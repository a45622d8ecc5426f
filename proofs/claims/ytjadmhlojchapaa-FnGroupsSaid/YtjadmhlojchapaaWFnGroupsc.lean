/- Walks through the functions that laws.FnGroups reaches: what each computes; no conditions beyond what each theorem states. -/
import Derived.Test.YtjadmhlojchapaaWFnGroupsb
set_option linter.unusedVariables false
set_option linter.unusedSimpArgs false
namespace Go.Proofs.Ytjadmhlojchapaa.wFnGroups
open Go Go.Sl
theorem grpS_self {f : Int → Int} {l : List Int} (h : ∀ x ∈ l, -9223372036854775808 ≤ x ∧ x ≤ 9223372036854775807) : grpS (fun x => (f x, keyAt 0 0 x 0)) l = grpS (fun x => (f x, x)) l :=
  grpS_cg fun x hx => by show (f x, keyAt 0 0 x 0) = (f x, x); rw [show keyAt 0 0 x 0 = x from k0_id h x hx]
theorem grpS_same (f : Int → Int) (l : List Int) : grpS (fun x => (f x, keyAt 5 0 x 0)) l = grpS (fun x => (f x, x)) l :=
  grpS_cg fun x hx => by show (f x, keyAt 5 0 x 0) = (f x, x); simp [keyAt]
theorem grpS_filt (f : Int → Int) (l : List Int) : (setI (uqS f l).1).map (fun key => (key, l.filter fun x => decide (f x = key))) = grpS (fun x => (f x, x)) l := by
  have e : setI (uqS f l).1 = setI (l.map f) := setI_eq fun z => (uq_keys f l).1 z
  rw [e]
  refine Eq.trans ?_ (grpS_keys (fun x => (f x, x)) l)
  exact List.map_congr_left fun key _ => by
    show (key, _) = (key, grpO (fun x => (f x, x)) key l)
    unfold grpO; rw [List.map_id']
theorem mpL_snoc {SK : List Int} {j : Nat} {x : Int} {g : Int → List Int} {v : List Int} (h : SK[j]? = some x) (hv : g x = v) : (SK.take j).map g ++ [v] = (SK.take (j + 1)).map g := by rw [tk_snoc h, List.map_append, List.map_singleton, hv]
theorem pz_yes2 {f : Int → Int} {l : List Int} {i k : Nat} {x y z z' : Int} (h : l[k]? = some x) (e : y = z') (hy : (l.map f)[k]? = some y) (hz : (l.map f)[i]? = some z') (hz2 : (l.map f)[i]? = some z) : (l.take k).filter (fun x => decide (f x = z)) ++ [x] = (l.take (k + 1)).filter fun x => decide (f x = z) :=
  pz_yes h hy (e.trans (Option.some.inj (hz.symm.trans hz2)))
theorem pz_no2 {f : Int → Int} {l : List Int} {i k : Nat} {y z z' : Int} (hk : k < l.length) (e : ¬ y = z') (hy : (l.map f)[k]? = some y) (hz : (l.map f)[i]? = some z') (hz2 : (l.map f)[i]? = some z) : (l.take k).filter (fun x => decide (f x = z)) = (l.take (k + 1)).filter fun x => decide (f x = z) :=
  pz_no hk hy (fun h => e (h.trans (Option.some.inj (hz2.symm.trans hz))))

end Go.Proofs.Ytjadmhlojchapaa.wFnGroups
