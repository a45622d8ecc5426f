import Derived.RangeFuncNested
import Derived.RangeFuncBound
import Derived.RangeFuncCalls
import Derived.RangeFuncLeaves
import Derived.TacticsInMore
import Derived.WalkKit
import Derived.RowKit3
namespace Go.Sl
open Go

/-! ### Heaps: what a part of the memory holds -/
abbrev Hq := Nat → Option Obj
def envS (w : World) : Os × (Nat → Question → Nat) × Array (Nat × ByteArray) := (w.os, w.tape, w.output)
/-- the frozen part of the memory, and the streams -/
structure Hp where
  mem : Hq
  env : Os × (Nat → Question → Nat) × Array (Nat × ByteArray)
instance : CoeFun Hp (fun _ => Nat → Option Obj) := ⟨Hp.mem⟩
namespace Hp
def emp : Hq := fun _ => none
def one (b : Nat) (o : Obj) : Hq := fun c => if c = b then some o else none
def disj (g h : Hq) : Prop := ∀ b, g b = none ∨ h b = none
def union (g h : Hq) : Hq := fun b => match g b with | some o => some o | none => h b
def leQ (g h : Hq) : Prop := ∀ b o, g b = some o → h b = some o
def le (g h : Hp) : Prop := h.env = g.env ∧ ∀ b o, g b = some o → h b = some o
theorem le.refl (g : Hp) : le g g := ⟨rfl, fun _ _ h => h⟩
theorem le.trans {a b c : Hp} (h : le a b) (h' : le b c) : le a c := ⟨h'.1.trans h.1, fun x o e => h'.2 x o (h.2 x o e)⟩
theorem disj.symm {g h : Hq} (d : disj g h) : disj h g := fun b => (d b).symm
theorem union_emp (g : Hq) : union g emp = g := by funext b; unfold union emp; cases g b <;> rfl
theorem emp_union (g : Hq) : union emp g = g := by funext b; unfold union emp; rfl
theorem union_comm {g h : Hq} (d : disj g h) : union g h = union h g := by
  funext b; unfold union
  rcases d b with e | e <;> rw [e]
  · cases h b <;> rfl
  · cases g b <;> rfl
theorem union_assoc (a b c : Hq) : union (union a b) c = union a (union b c) := by
  funext x; unfold union; cases a x <;> rfl
theorem disj_union_left {a b c : Hq} : disj (union a b) c ↔ disj a c ∧ disj b c := by
  unfold disj union
  constructor
  · intro h
    constructor <;> intro x <;> have := h x <;> revert this <;> cases a x <;> cases b x <;> simp
  · rintro ⟨h1, h2⟩ x
    have e1 := h1 x; have e2 := h2 x
    cases ha : a x <;> cases hb : b x <;> rw [ha] at e1 <;> rw [hb] at e2 <;> simp_all
theorem disj_union_right {a b c : Hq} : disj a (union b c) ↔ disj a b ∧ disj a c := by
  constructor
  · intro h; have := disj_union_left.1 h.symm; exact ⟨this.1.symm, this.2.symm⟩
  · rintro ⟨h1, h2⟩; exact (disj_union_left.2 ⟨h1.symm, h2.symm⟩).symm
theorem le_union_right {g M : Hq} (d : disj g M) : leQ M (union g M) := by
  intro b o h; unfold union; rcases d b with e | e
  · rw [e]; exact h
  · rw [e] at h; cases h
theorem le_union_left (g M : Hq) : leQ g (union g M) := by
  intro b o h; unfold union; rw [h]
theorem disj_emp (g : Hq) : disj g emp := fun _ => .inr rfl
end Hp

abbrev HProp := Hq → Prop
def sat : List HProp → Hq → Prop
  | [], h => h = Hp.emp
  | p :: ps, h => ∃ g1 g2, Hp.disj g1 g2 ∧ h = Hp.union g1 g2 ∧ p g1 ∧ sat ps g2
def agreeQ (h : Hq) (w : World) : Prop := ∀ b o, h b = some o → w.heap[b]? = some o
def agree (h : Hp) (w : World) : Prop := envS w = h.env ∧ ∀ b o, h b = some o → w.heap[b]? = some o
/-- The world holds the frozen part M and, apart from it, the chunks H. -/
def St (w : World) (M : Hp) (H : List HProp) : Prop := ∃ h, sat H h ∧ Hp.disj h M.mem ∧ agreeQ h w ∧ agree M w

theorem sat_swap {p q : HProp} {H : List HProp} {h : Hq} (s : sat (p :: q :: H) h) : sat (q :: p :: H) h := by
  obtain ⟨g1, g2, d, rfl, hp, g3, g4, d', rfl, hq, hH⟩ := s
  have ⟨d1, d2⟩ := Hp.disj_union_right.1 d
  refine ⟨g3, Hp.union g1 g4, Hp.disj_union_right.2 ⟨d1.symm, d'⟩, ?_, hq, g1, g4, d2, rfl, hp, hH⟩
  rw [← Hp.union_assoc, ← Hp.union_assoc, Hp.union_comm d1]
theorem sat_cons_of {p : HProp} {H H' : List HProp} (f : ∀ h, sat H h → sat H' h) {h : Hq} (s : sat (p :: H) h) : sat (p :: H') h :=
  let ⟨g1, g2, d, e, hp, hH⟩ := s; ⟨g1, g2, d, e, hp, f _ hH⟩
theorem sat_perm {H H' : List HProp} (p : H.Perm H') : ∀ {h : Hq}, sat H h → sat H' h := by
  induction p with
  | nil => exact id
  | cons x _ ih => exact sat_cons_of fun _ => ih
  | swap x y l => exact sat_swap
  | trans _ _ ih1 ih2 => exact fun s => ih2 (ih1 s)

namespace St
variable {w w' : World} {M : Hp} {H H' : List HProp} {p q : HProp}
theorem perm (s : St w M H) (h : H.Perm H') : St w M H' := let ⟨g, a, b⟩ := s; ⟨g, sat_perm h a, b⟩
theorem of_sat (s : St w M H) (f : ∀ h, sat H h → sat H' h) : St w M H' := let ⟨g, a, b⟩ := s; ⟨g, f _ a, b⟩
theorem swap (s : St w M (p :: q :: H)) : St w M (q :: p :: H) := s.of_sat fun _ => sat_swap
theorem imp (s : St w M (p :: H)) (f : ∀ h, p h → q h) : St w M (q :: H) :=
  s.of_sat fun _ ⟨g1, g2, d, e, hp, hH⟩ => ⟨g1, g2, d, e, f _ hp, hH⟩
theorem drop (s : St w M (p :: H)) : St w M H := by
  obtain ⟨h, ⟨g1, g2, d, rfl, hp, hH⟩, dM, ag, agM⟩ := s
  refine ⟨g2, hH, (Hp.disj_union_left.1 dM).2, fun b o e => ag b o ?_, agM⟩
  unfold Hp.union; rcases d b with e' | e' <;> rw [e'] <;> first | exact e | (rw [e] at e'; cases e')
theorem mono_heap (s : St w M H) (e : w'.heap = w.heap) (he : envS w' = envS w := by rfl) : St w' M H := by
  obtain ⟨h, a, b, c, d⟩ := s; exact ⟨h, a, b, fun x o hx => by rw [e]; exact c x o hx, he.trans d.1, fun x o hx => by rw [e]; exact d.2 x o hx⟩
theorem imm (s : St w M H) : agree M w := let ⟨_, _, _, _, d⟩ := s; d
theorem ex {ι : Type} {P : ι → HProp} (s : St w M ((fun h => ∃ x, P x h) :: H)) : ∃ x, St w M (P x :: H) := by
  obtain ⟨h, ⟨g1, g2, d, e, ⟨x, hp⟩, hH⟩, r⟩ := s; exact ⟨x, h, ⟨g1, g2, d, e, hp, hH⟩, r⟩
theorem pure_ {φ : Prop} (s : St w M ((fun h => φ ∧ p h) :: H)) : φ ∧ St w M (p :: H) := by
  obtain ⟨h, ⟨g1, g2, d, e, ⟨x, hp⟩, hH⟩, r⟩ := s; exact ⟨x, h, ⟨g1, g2, d, e, hp, hH⟩, r⟩
theorem drops {L : List HProp} : ∀ {H : List HProp}, St w M (L ++ H) → St w M H := by
  induction L with
  | nil => exact fun s => s
  | cons p L ih => exact fun s => ih s.drop
end St

/-- one block, owned -/
def blk (b : Nat) (o : Obj) : HProp := fun h => h = Hp.one b o

namespace St
variable {w w' : World} {M : Hp} {H H' : List HProp} {p q : HProp}
theorem get {b : Nat} {o : Obj} (s : St w M (blk b o :: H)) : w.heap[b]? = some o := by
  obtain ⟨h, ⟨g1, g2, d, rfl, rfl, hH⟩, dM, ag, agM⟩ := s
  exact ag b o (by unfold Hp.union Hp.one; simp)
/-- the owned block gets another content; nothing else that is held changes -/
theorem set {b : Nat} {o o' : Obj} (s : St w M (blk b o :: H)) (hb : w'.heap[b]? = some o') (hc : ∀ c, c ≠ b → ∀ x, w.heap[c]? = some x → w'.heap[c]? = some x) (he : envS w' = envS w := by rfl) :
    St w' M (blk b o' :: H) := by
  obtain ⟨h, ⟨g1, g2, d, rfl, rfl, hH⟩, dM, ag, agM⟩ := s
  have hg2 : g2 b = none := by rcases d b with e | e; · simp [Hp.one] at e
                               · exact e
  have hM : M b = none := by rcases dM b with e | e; · simp [Hp.union, Hp.one] at e
                             · exact e
  refine ⟨Hp.union (Hp.one b o') g2, ⟨_, _, ?_, rfl, rfl, hH⟩, ?_, ?_, he.trans agM.1, ?_⟩
  · intro c; by_cases h : c = b
    · subst h; exact .inr hg2
    · exact .inl (by simp [Hp.one, h])
  · intro c; by_cases h : c = b
    · subst h; exact .inr hM
    · have := dM c; simpa [Hp.union, Hp.one, h] using this
  · intro c x hx; by_cases h : c = b
    · subst h; have : o' = x := by simpa [Hp.union, Hp.one] using hx
      rw [← this]; exact hb
    · exact hc c h x (ag c x (by simpa [Hp.union, Hp.one, h] using hx))
  · intro c x hx
    have h : c ≠ b := by rintro rfl; rw [hM] at hx; cases hx
    exact hc c h x (agM.2 c x hx)
/-- a new block -/
theorem new {o : Obj} (s : St w M H) (hn : w'.heap = w.heap.push o) (he : envS w' = envS w := by rfl) : St w' M (blk w.heap.size o :: H) := by
  obtain ⟨h, hH, dM, ag, agM⟩ := s
  have lt : ∀ {g : Hq}, agreeQ g w → g w.heap.size = none := fun {g} a => by
    cases e : g w.heap.size with
    | none => rfl
    | some x => have := a _ _ e; simp at this
  have keep : ∀ (c : Nat) (x : Obj), w.heap[c]? = some x → w'.heap[c]? = some x := by
    intro c x hx; rw [hn, Array.getElem?_push]
    have : c < w.heap.size := (Array.getElem?_eq_some_iff.1 hx).1
    rw [if_neg (by omega)]; exact hx
  refine ⟨Hp.union (Hp.one w.heap.size o) h, ⟨_, _, ?_, rfl, rfl, hH⟩, ?_, ?_, he.trans agM.1, fun c x hx => keep c x (agM.2 c x hx)⟩
  · intro c; by_cases e : c = w.heap.size
    · subst e; exact .inr (lt ag)
    · exact .inl (by simp [Hp.one, e])
  · intro c; by_cases e : c = w.heap.size
    · subst e; exact .inr (lt agM.2)
    · have := dM c; simpa [Hp.union, Hp.one, e] using this
  · intro c x hx; by_cases e : c = w.heap.size
    · subst e; have : o = x := by simpa [Hp.union, Hp.one] using hx
      subst this; rw [hn, Array.getElem?_push]; simp
    · exact keep c x (ag c x (by simpa [Hp.union, Hp.one, e] using hx))
/-- an owned chunk is frozen -/
theorem freeze (s : St w M (p :: H)) : ∃ (M' : Hp) (g : Hq), Hp.le M M' ∧ Hp.leQ g M'.mem ∧ p g ∧ St w M' H := by
  obtain ⟨h, ⟨g1, g2, d, rfl, hp, hH⟩, dM, ag, agM⟩ := s
  have ⟨d1, d2⟩ := Hp.disj_union_left.1 dM
  refine ⟨⟨Hp.union g1 M.mem, M.env⟩, g1, ⟨rfl, Hp.le_union_right d1⟩, Hp.le_union_left _ _, hp, g2, hH, ?_, ?_, agM.1, ?_⟩
  · exact Hp.disj_union_right.2 ⟨d.symm, d2⟩
  · intro c x hx; refine ag c x ?_
    unfold Hp.union; rcases d c with e' | e' <;> rw [e'] <;> first | exact hx | (rw [hx] at e'; cases e')
  · intro c x hx
    change Hp.union g1 M.mem c = some x at hx
    unfold Hp.union at hx
    cases e : g1 c with
    | none => rw [e] at hx; exact agM.2 c x hx
    | some y => rw [e] at hx; refine ag c x ?_; unfold Hp.union; rw [e]; exact hx
theorem nil_of (h : agree M w) : St w M [] := ⟨Hp.emp, rfl, (fun _ => .inl rfl), (fun _ _ e => by cases e), h⟩
end St

/-! ### Reading frozen cells -/
def cellM (M : Hp) (a : Addr) : Option Value :=
  match M a.block with
  | some (.cells c _ _) => if a.spot.isSome then none else c[a.off]?
  | _ => none
theorem agree_le {M M' : Hp} {w : World} (h : Hp.le M M') (a : agree M' w) : agree M w := ⟨a.1.trans h.1, fun b o e => a.2 b o (h.2 b o e)⟩
theorem cellM_le {M M' : Hp} (h : Hp.le M M') {a : Addr} {v : Value} (e : cellM M a = some v) : cellM M' a = some v := by
  unfold cellM at *
  split at e
  · rename_i c _ _ h1; rw [h.2 _ _ h1]; exact e
  · cases e
theorem cellM_world {M : Hp} {w : World} (ag : agree M w) {a : Addr} {v : Value} (e : cellM M a = some v) : w.cell? a = some v := by
  unfold cellM at e; unfold World.cell?
  split at e
  · rename_i c _ _ h1; rw [ag.2 _ _ h1]; exact e
  · cases e
theorem add_add (a : Addr) (i j : Nat) : (a.add i).add j = a.add (i + j) := by
  unfold Addr.add
  by_cases hi : i = 0
  · subst hi; simp
  · by_cases hj : j = 0
    · subst hj; simp
    · simp [hi, hj, Nat.add_assoc]
theorem add_zero (a : Addr) : a.add 0 = a := rfl

/-- A slice value v reads, in the frozen memory M, as the list l: the cells cs of each element stand to it in R. -/
def RdS {α : Type} (sz : Nat) (R : Hp → List Value → α → Prop) (M : Hp) (v : Value) (l : List α) : Prop :=
  ∃ a cap, v = .slice a l.length cap ∧ l.length ≤ cap ∧ l.length ≤ 2 ^ 44 ∧
    ∀ i x, l[i]? = some x → ∃ ad cs, a = some ad ∧ cs.length = sz ∧ R M cs x ∧ ∀ j c, cs[j]? = some c → cellM M (ad.add (i * sz + j)) = some c

def RInt : Hp → List Value → Int → Prop := fun _ cs x => cs = [.int .i64 x]
abbrev RdI (M : Hp) (v : Value) (l : List Int) : Prop := RdS 1 RInt M v l
def RMono {α : Type} (R : Hp → List Value → α → Prop) : Prop := ∀ M M' cs x, Hp.le M M' → R M cs x → R M' cs x
theorem RInt_mono : RMono RInt := fun _ _ _ _ _ h => h
theorem RdS.le {α : Type} {sz : Nat} {R : Hp → List Value → α → Prop} (hR : RMono R) {M M' : Hp} {v : Value} {l : List α} (h : RdS sz R M v l) (hM : Hp.le M M') : RdS sz R M' v l := by
  obtain ⟨a, cap, e, h1, h2, h3⟩ := h
  exact ⟨a, cap, e, h1, h2, fun i x hx => let ⟨ad, cs, e1, e2, e3, e4⟩ := h3 i x hx; ⟨ad, cs, e1, e2, hR _ _ _ _ hM e3, fun j c hj => cellM_le hM (e4 j c hj)⟩⟩
theorem RdI.le {M M' : Hp} {v : Value} {l : List Int} (h : RdI M v l) (hM : Hp.le M M') : RdI M' v l := RdS.le RInt_mono h hM
def RSl {α : Type} (sz : Nat) (R : Hp → List Value → α → Prop) : Hp → List Value → List α → Prop := fun M cs l => ∃ v, cs = [v] ∧ RdS sz R M v l
theorem RSl_mono {α : Type} {sz : Nat} {R : Hp → List Value → α → Prop} (hR : RMono R) : RMono (RSl sz R) := fun _ _ _ _ hM ⟨v, e, h⟩ => ⟨v, e, h.le hR hM⟩
abbrev RdII (M : Hp) (v : Value) (l : List (List Int)) : Prop := RdS 1 (RSl 1 RInt) M v l
theorem RdII.le {M M' : Hp} {v : Value} {l : List (List Int)} (h : RdII M v l) (hM : Hp.le M M') : RdII M' v l := RdS.le (RSl_mono RInt_mono) h hM

/-- The part of a list from lo up to hi. -/
theorem RdS.sub {α : Type} {sz : Nat} {R : Hp → List Value → α → Prop} {M : Hp} {a : Option Addr} {n cap : Nat} {l : List α} (h : RdS sz R M (.slice a n cap) l) (lo hi : Nat) (h1 : lo ≤ hi) (h2 : hi ≤ l.length) :
    RdS sz R M (.slice (if cap = lo then a else a.map (·.add (lo * sz))) (hi - lo) (cap - lo)) ((l.take hi).drop lo) := by
  obtain ⟨a', cap', e, h3, h4, h5⟩ := h
  cases e
  have hl : ((l.take hi).drop lo).length = hi - lo := by simp; omega
  refine ⟨_, cap - lo, by rw [hl], by rw [hl]; omega, by rw [hl]; omega, fun i x hx => ?_⟩
  have hi' : i < hi - lo := by rw [← hl]; exact (List.getElem?_eq_some_iff.1 hx).1
  have hx' : l[lo + i]? = some x := by
    rw [List.getElem?_drop, List.getElem?_take] at hx; rw [if_pos (by omega)] at hx; exact hx
  obtain ⟨ad, cs, rfl, e2, e3, e4⟩ := h5 _ _ hx'
  rw [if_neg (by omega)]
  refine ⟨ad.add (lo * sz), cs, rfl, e2, e3, fun j c hj => ?_⟩
  rw [add_add]
  have := e4 j c hj
  rw [show lo * sz + (i * sz + j) = (lo + i) * sz + j by rw [Nat.add_mul]; omega]; exact this
end Go.Sl
