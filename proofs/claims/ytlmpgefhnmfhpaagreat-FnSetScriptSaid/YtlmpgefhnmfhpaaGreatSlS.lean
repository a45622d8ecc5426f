import Derived.Test.YtlmpgefhnmfhpaaGreatSlY
import Derived.Shelf.SortM.Plain
import Derived.Shelf.SortM.SortNone
import Derived.Sort.OwnSortedInts
set_option linter.unusedVariables false
namespace Go.Sl
open Go Go.Proofs Go.Sort
def Vm (l : List Int) : List Int := l.mergeSort fun x y => decide (x ≤ y)
theorem Ye (l : List Int) : (Vm l).length = l.length := List.length_mergeSort ..
theorem St.sorted {w : World} {M : Hp} {H : List Qm} {b n : Nat} {cur : Array Value} {e : TypeId} {os : Array Obj} {zs : Array Int} (s : St w M (Qh b (.cells cur e (0, 0)) :: H)) :
    St (grow (putRow (Value.int .i64) (Sort.ahead w n) b 0 zs) os) M (Qh b (.cells (putCells (Value.int .i64) 0 zs cur) e (0, 0)) :: H) :=
  s.set (heap_sortedI zs s.get) (fun c hc x hx => by
    have hlt := (Array.getElem?_eq_some_iff.1 hx).1
    have hne : b ≠ c := fun e => hc e.symm
    rw [heap_grow_old _ _ (by simpa using hlt)]
    simp [putRow, mapBlock, Sort.ahead, Array.getElem?_modify, hne, hx]) rfl
theorem sort_sp {P : Program} {f : FuncId} {e : TypeId} (hcf : ∀ args w, (callFunc f args).run P w = .ok (.enter f args) w)
    (h1 : ∀ (Qh off cap : Nat) (zs : List Int) (w : World), Holds (Value.int .i64) w Qh off zs.toArray → Qh < w.heap.size → zs.length < 4611686018427387904 → Calls P f #[.slice (some ⟨Qh, off, none⟩) zs.length cap] w fun e w' => e = .returned (.tuple #[]) ∧ ∃ n os, w' = grow (putRow (Value.int .i64) (Sort.ahead w n) Qh off (zs.mergeSort fun x y => decide (x ≤ y)).toArray) os)
    (h0 : ∀ (p : Option Addr) (cap : Nat) (w : World), Calls P f #[.slice p 0 cap] w fun e w' => e = .returned (.tuple #[]) ∧ w' = w)
    {M : Hp} {v0 : Value} {l0 : List Int} (b0 : l0.length ≤ 1000000000000) :
    Sp P (.func (.func f) #[] #[]) M [v0] [Zi e v0 l0] (fun r M' C' => C' = [Zi e v0 (Vm l0)]) := by
  intro w M1 H hM S
  replace S : St w M1 (Zi e v0 l0 :: H) := S
  refine Yd.func hcf ?_
  obtain ⟨hxl, ho⟩ := S.ownCases
  rcases ho with ⟨rfl, hl, s0⟩ | ⟨g, cap, cur, rfl, s0, a1, a2, a3, a4⟩
  · have hn : l0 = [] := List.eq_nil_of_length_eq_zero hl
    subst hn
    refine (h0 none 0 w).mono fun e' w' ⟨h2, h3⟩ => ?_
    subst h3
    exact ⟨_, h2, M1, _, Hp.le.refl _, rfl, by rw [show Vm [] = [] from by simp [Vm]]; exact S⟩
  · have hb := s0.get
    have ht : cur.toList.take l0.length = l0.map (Value.int .i64) := by rw [← a4, Nat.mul_one]
    refine (h1 g 0 cap l0 w (holds_of_blockI hb ht) (Array.getElem?_eq_some_iff.1 hb).1 (by omega)).mono fun e' w' ⟨h2, n, os, h3⟩ => ?_
    subst h3
    have s1 := s0.sorted (n := n) (os := os) (zs := (Vm l0).toArray)
    refine ⟨_, h2, M1, _, Hp.le.refl _, rfl, ?_⟩
    show St _ M1 (Jk e 1 _ (Vm l0).length _ :: H)
    rw [Ye]
    refine s1.ownOf (by simp [Ye]) a1 a2 (by simp [putCells, a3]) ?_
    rw [Nat.mul_one, ← Ye]
    exact take_putCellsI cur (Vm l0) (by rw [Ye]; omega)
end Go.Sl
