import Derived.Test.YtlmpgefhnmfhpaaGreatSlX
set_option linter.unusedVariables false
namespace Go.Sl
open Go Go.RowKit
def Up : Hp → List Value → Bool → Prop := fun _ cs b => cs = [.bool b]
theorem Gh : UM Up := fun _ _ _ _ _ h => h
theorem RdB.at {M : Hp} {v : Value} {l : List Bool} {k : Nat} {e : Bool} (h : JN 1 Up M v l) (he : l[k]? = some e) : ∃ p, Zj v k 1 p ∧ ZC M p = some (.bool e) := by
  obtain ⟨p, u, h1, h2, h3⟩ := h.at1 he
  unfold Up at h3; simp at h3; subst h3; exact ⟨p, h1, h2⟩
theorem RowsRB.set {M : Hp} {l : List Bool} {xs : List Value} {k : Nat} {b : Bool} (h : JX Up 1 M l xs) : JX Up 1 M (l.set k b) (xs.set k (.bool b)) := by
  obtain ⟨h1, h2, h3⟩ := h
  refine ⟨by simpa using h1, fun u hu => ?_, fun j x hx => ?_⟩
  · rcases List.mem_or_eq_of_mem_set hu with hu | rfl
    · exact h2 u hu
    · rfl
  · have hj := (List.getElem?_eq_some_iff.1 hx).1
    rw [List.length_set] at hj
    have hjx : j < xs.length := by omega
    unfold Up
    rw [Nat.mul_one, List.take_one, List.head?_drop]
    by_cases e : k = j
    · subst e
      rw [List.getElem?_set_self hj] at hx; cases hx
      rw [List.getElem?_set_self hjx]; rfl
    · rw [List.getElem?_set_ne e] at hx ⊢
      have h4 := h3 j x hx
      unfold Up at h4
      rw [Nat.mul_one, List.take_one, List.head?_drop] at h4; exact h4
end Go.Sl
