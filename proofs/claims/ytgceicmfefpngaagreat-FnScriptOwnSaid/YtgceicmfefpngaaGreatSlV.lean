import Derived.Test.YtgceicmfefpngaaGreatSlU
set_option linter.unusedVariables false
namespace Go.Sl
open Go
def RdW8 (M : Hp) (v : Value) (l : List Int) : Prop := ∃ a cap, v = .slice a l.length cap ∧ l.length ≤ cap ∧ ∀ i x, l[i]? = some x → (0 ≤ x ∧ x ≤ 255) ∧ ∃ ad, a = some ad ∧ ZU M (ad.add i) = some (.int .u8 x)
theorem RdW8.le {M M' : Hp} {v : Value} {l : List Int} (h : RdW8 M v l) (hM : Hp.le M M') : RdW8 M' v l := by
  obtain ⟨a, cap, e, h1, h2⟩ := h
  exact ⟨a, cap, e, h1, fun i x hx => let ⟨b, ad, e1, e2⟩ := h2 i x hx; ⟨b, ad, e1, cellM_le hM e2⟩⟩
theorem RdW8.len {M : Hp} {v : Value} {l : List Int} (h : RdW8 M v l) : LenV v l.length := let ⟨a, c, e, h1, _⟩ := h; ⟨a, c, e, h1⟩
theorem RdW8.at {M : Hp} {v : Value} {l : List Int} {k : Nat} {e : Int} (h : RdW8 M v l) (he : l[k]? = some e) : (0 ≤ e ∧ e ≤ 255) ∧ ∃ p, ZX v k 1 p ∧ ZU M p = some (.int .u8 e) := by
  obtain ⟨a, cap, rfl, h1, h2⟩ := h
  obtain ⟨b, ad, rfl, e2⟩ := h2 k e he
  exact ⟨b, _, ⟨ad, _, _, rfl, (List.getElem?_eq_some_iff.1 he).1, rfl⟩, by rw [Nat.mul_one]; exact e2⟩
def FullV (v : Value) (m sz : Nat) (v' : Value) : Prop := ∃ A c, v = .slice A m c ∧ m ≤ c ∧ v' = .slice (if m = 0 then A else A.map (·.add (0 * sz))) m m
theorem Qy.full {M : Hp} {v : Value} {l : List Int} (h : Qy M v l) : ∃ v', FullV v l.length 1 v' ∧ Qy M v' l := by
  obtain ⟨a, cap, rfl, h1, h2, h3⟩ := h
  refine ⟨_, ⟨a, cap, rfl, h1, rfl⟩, _, l.length, rfl, Nat.le_refl _, h2, fun i x hx => ?_⟩
  obtain ⟨ad, cs, rfl, e2, e3, e4⟩ := h3 i x hx
  refine ⟨ad, cs, ?_, e2, e3, e4⟩
  split
  · rfl
  · simp [add_zero]
theorem St.lend {w : World} {M : Hp} {H : List Qr} {p : Qr} (s : St w M (p :: H)) : ∃ M' g, Hp.le M M' ∧ (∀ b o, g b = some o → M' b = some o) ∧ p g ∧ St w M' H ∧ ∀ w' M2, Hp.le M' M2 → St w' M2 H → St w' M (p :: H) := by
  obtain ⟨h, ⟨g, h2, d, rfl, hp, hH⟩, dM, aq, ag⟩ := s
  have ⟨dg, dh⟩ := Hp.disj_union_left.1 dM
  refine ⟨⟨Hp.union g M.mem, M.env⟩, g, ⟨rfl, fun b o e => Hp.le_union_right dg b o e⟩, fun b o e => Hp.le_union_left g M.mem b o e, hp, ⟨h2, hH, Hp.disj_union_right.2 ⟨d.symm, dh⟩, fun b o e => aq b o (Hp.le_union_right d b o e), ag.1, fun b o e => ?_⟩, ?_⟩
  · have e' : Hp.union g M.mem b = some o := e
    unfold Hp.union at e'
    cases hg : g b with
    | some o' => rw [hg] at e'; cases e'; exact aq b o (Hp.le_union_left g h2 b o hg)
    | none => rw [hg] at e'; exact ag.2 b o e'
  · rintro w' M2 hM ⟨h', hH', d', aq', ag'⟩
    have hgM : ∀ b o, g b = some o → M2 b = some o := fun b o e => hM.2 b o (Hp.le_union_left g M.mem b o e)
    have hMM : ∀ b o, M b = some o → M2 b = some o := fun b o e => hM.2 b o (Hp.le_union_right dg b o e)
    have dgh : Hp.disj g h' := fun b => by
      cases hg : g b with
      | none => exact .inl rfl
      | some o => rcases d' b with e | e
                  · exact .inr e
                  · have := hgM b o hg
                    exact absurd (this.symm.trans e) (by simp)
    have dhM : Hp.disj h' M.mem := fun b => by
      rcases d' b with e | e
      · exact .inl e
      · right
        cases hm : M.mem b with
        | none => rfl
        | some o => have := hMM b o hm
                    exact absurd (this.symm.trans e) (by simp)
    refine ⟨Hp.union g h', ⟨g, h', dgh, rfl, hp, hH'⟩, Hp.disj_union_left.2 ⟨dg, dhM⟩, fun b o e => ?_, ⟨ag'.1.trans hM.1, fun b o e => ag'.2 b o (hMM b o e)⟩⟩
    unfold Hp.union at e
    cases hg : g b with
    | some o' => rw [hg] at e; cases e; exact ag'.2 b o (hgM b o hg)
    | none => rw [hg] at e; exact aq' b o e
theorem St.lendI {w : World} {M : Hp} {H : List Qr} {e : TypeId} {v : Value} {l : List Int} (s : St w M (Jg e v l :: H)) (hlen : l.length ≤ 17592186044416) : ∃ M', Hp.le M M' ∧ Qy M' v l ∧ St w M' H ∧ ∀ w' M2, Hp.le M' M2 → St w' M2 H → St w' M (Jg e v l :: H) := by
  obtain ⟨M', g, h1, h2, hp, s', back⟩ := s.lend
  refine ⟨M', h1, ?_, s', back⟩
  obtain ⟨hxl, ho⟩ := hp
  rcases ho with ⟨rfl, hl, rfl⟩ | ⟨g', cap, cur, rfl, rfl, a1, a2, a3, a4⟩
  · refine ⟨none, 0, by rw [hl], by omega, by omega, fun i x hx => ?_⟩
    have := (List.getElem?_eq_some_iff.1 hx).1; omega
  · refine ⟨_, cap, rfl, a1, hlen, fun i x hx => ⟨_, [.int .i64 x], rfl, rfl, rfl, fun j c hj => ?_⟩⟩
    have hM' : M' g' = some (.cells cur e (0, 0)) := h2 _ _ (by simp [Hp.one])
    have hi := (List.getElem?_eq_some_iff.1 hx).1
    have hj0 : j = 0 := by have := (List.getElem?_eq_some_iff.1 hj).1; simpa using this
    subst hj0
    have hc : c = .int .i64 x := by simpa using hj.symm
    subst hc
    have hcur : cur.toList[i]? = some (.int .i64 x) := by
      have h3 : (cur.toList.take (l.length * 1))[i]? = some (.int .i64 x) := by rw [a4, List.getElem?_map, hx]; rfl
      rwa [List.getElem?_take_of_lt (by omega)] at h3
    rw [Addr.add_lit]; unfold ZU; rw [hM']; simpa using hcur
end Go.Sl
