import Derived.Test.YtejfcglfjdfneaaSlD
namespace Go.Sl
open Go

/-! ### Types of slices -/
structure SlT (P : Program) (t el : TypeId) (sz by_ : Nat) (z : Value) : Prop where
  und : P.underlying t = some (.slice el)
  inf : ∃ i : TypeInfo, P.info? el = some i ∧ i.size = sz ∧ i.bytes = by_ ∧ i.zero = some z
  zsz : z.cells.size = sz
  pos : 0 < sz
theorem SlT.sizeOf {P : Program} {t el : TypeId} {sz by_ : Nat} {z : Value} (T : SlT P t el sz by_ z) (w : World) : (sizeOf el).run P w = .ok sz w := by
  obtain ⟨i, h1, h2, _⟩ := T.inf; simp [Go.sizeOf, typeInfo, h1, h2]

/-- An owned slice: the cells xs of its m elements. -/
def OwnC (e : TypeId) (sz : Nat) (v : Value) (m : Nat) (xs : List Value) : HProp := fun h =>
  xs.length = m * sz ∧ ((v = .slice none 0 0 ∧ m = 0 ∧ h = Hp.emp) ∨
    ∃ g cap cur, v = .slice (some ⟨g, 0, none⟩) m cap ∧ h = Hp.one g (.cells cur e (0, 0)) ∧ m ≤ cap ∧ cap ≤ maxLen ∧ cur.size = cap * sz ∧ cur.toList.take (m * sz) = xs)
abbrev OwnI (e : TypeId) (v : Value) (xs : List Int) : HProp := OwnC e 1 v xs.length (xs.map (Value.int .i64))

section own
variable {w w' : World} {M : Hp} {H : List HProp} {e : TypeId} {sz : Nat} {v : Value} {m : Nat} {xs : List Value}
theorem St.emp (s : St w M H) : St w M ((fun h => h = Hp.emp) :: H) := by
  obtain ⟨h, a, r⟩ := s; exact ⟨h, ⟨Hp.emp, h, fun _ => .inl rfl, (Hp.emp_union h).symm, rfl, a⟩, r⟩
theorem St.ownNil (s : St w M H) : St w M (OwnC e sz (.slice none 0 0) 0 [] :: H) := s.emp.imp fun _ h => ⟨by simp, .inl ⟨rfl, rfl, h⟩⟩
theorem St.ownCases (s : St w M (OwnC e sz v m xs :: H)) : xs.length = m * sz ∧ ((v = .slice none 0 0 ∧ m = 0 ∧ St w M H) ∨
    ∃ g cap cur, v = .slice (some ⟨g, 0, none⟩) m cap ∧ St w M (blk g (.cells cur e (0, 0)) :: H) ∧ m ≤ cap ∧ cap ≤ maxLen ∧ cur.size = cap * sz ∧ cur.toList.take (m * sz) = xs) := by
  obtain ⟨h, ⟨g1, g2, d, e', ⟨hl, ho⟩, hH⟩, r⟩ := s
  refine ⟨hl, ?_⟩
  rcases ho with ⟨rfl, rfl, rfl⟩ | ⟨g, cap, cur, rfl, rfl, h1, h2, h3, h4⟩
  · exact .inl ⟨rfl, rfl, h, by rw [e', Hp.emp_union]; exact hH, r⟩
  · exact .inr ⟨g, cap, cur, rfl, ⟨h, ⟨_, g2, d, e', rfl, hH⟩, r⟩, h1, h2, h3, h4⟩
theorem St.ownOf {g cap : Nat} {cur : Array Value} (s : St w M (blk g (.cells cur e (0, 0)) :: H)) (h0 : xs.length = m * sz) (h1 : m ≤ cap) (h2 : cap ≤ maxLen) (h3 : cur.size = cap * sz) (h4 : cur.toList.take (m * sz) = xs) :
    St w M (OwnC e sz (.slice (some ⟨g, 0, none⟩) m cap) m xs :: H) := s.imp fun _ h => ⟨h0, .inr ⟨g, cap, cur, rfl, h, h1, h2, h3, h4⟩⟩

/-- what an append reads from -/
def Src (w : World) (sv : Value) (m : Nat) (news : List Value) : Prop :=
  (∃ a c, sv = .slice (some a) m c ∧ ∀ j u, news[j]? = some u → w.cell? (a.add j) = some u) ∨ (∃ c, sv = .slice none m c ∧ m = 0)

theorem run_append_none {P : Program} {t ty el : TypeId} {i : TypeInfo} (ht : P.underlying t = some (.slice el)) (hi : P.info? el = some i) (A : Option Addr) (k cap c : Nat) (hk : k ≤ cap) (w : World) :
    (Builtin.append_ #[t, t] ty #[.slice A k cap, .slice none 0 c]).run P w = .ok (.slice A k cap) w := by
  cases A <;> simp [Builtin.append_, run_underlying ht, Go.sizeOf, typeInfo, hi, Builtin.lenOf, hk, Builtin.firstCells, storeCells]

theorem append_own {P : Program} {t ty : TypeId} {by_ : Nat} {z : Value} (T : SlT P t e sz by_ z) (s : St w M (OwnC e sz v m xs :: H)) {sv : Value} {m2 : Nat} {news : List Value} (src : Src w sv m2 news)
    (hl : news.length = m2 * sz) (h1 : ∀ u ∈ news, u.oneCell' = true) (hb : (m + m2) * by_ ≤ 140737488355328) (h63 : m + m2 ≤ 2 ^ 44) :
    ∃ v' w', (Builtin.append_ #[t, t] ty #[v, sv]).run P w = .ok v' w' ∧ St w' M (OwnC e sz v' (m + m2) (xs ++ news) :: H) := by
  obtain ⟨i, hi, rfl, rfl, hz⟩ := T.inf
  have ht := T.und
  have hzs := T.zsz
  obtain ⟨hxl, hc⟩ := s.ownCases
  have hlen : (xs ++ news).length = (m + m2) * i.size := by rw [List.length_append, hxl, hl, Nat.add_mul]
  rcases src with ⟨b, c, rfl, hnews⟩ | ⟨c, rfl, rfl⟩
  · rcases hc with ⟨rfl, rfl, s0⟩ | ⟨g, cap, cur, rfl, s0, hmc, hcm, hcs, htake⟩
    · have hx : xs = [] := List.eq_nil_of_length_eq_zero (by simpa using hxl)
      subst hx
      by_cases hm : m2 = 0
      · subst hm
        have hn : news = [] := List.eq_nil_of_length_eq_zero (by simpa using hl)
        subst hn
        refine ⟨.slice none 0 0, w, ?_, s0.ownNil⟩
        simp [Builtin.append_, run_underlying ht, Go.sizeOf, typeInfo, hi, Builtin.lenOf, Builtin.firstCells, loadCells, loadCellsFrom]
      · have hr := run_append_nil (P := P) w t ty e i z ht hi hz b m2 c news hl hnews (by omega) (by omega) (by have hb := hb; simp only [Nat.zero_add] at hb; omega)
        refine ⟨_, _, hr, ?_⟩
        have hge := grownCap_ge w m2 0 e
        have hcm := grownCap_le_maxLen w m2 0 e (by unfold maxLen; omega)
        have s1 : St w.drew M H := s0.mono_heap rfl
        have s2 := s1.new (w' := w.drew.alloc (.cells (news.toArray ++ Builtin.zeroCells z.cells (grownCap w m2 0 e - m2)) e)) rfl
        have s3 := s2.ownOf (xs := news) (m := m2) (cap := grownCap w m2 0 e) (sz := i.size) hl hge hcm (by
          simp only [Array.size_append, List.size_toArray, size_zeroCells, hzs, hl, ← Nat.add_mul]; congr 1; omega) (by
          rw [Array.toList_append, ← hl]; exact List.take_left)
        simpa using s3
    · by_cases hroom : m + m2 ≤ cap
      · have hfit : m * i.size + news.length ≤ cur.size := by rw [hl, hcs, ← Nat.add_mul]; exact Nat.mul_le_mul_right _ hroom
        have hr := run_append_room (P := P) w t ty e i ht hi g m cap cur s0.get b m2 c news hl hnews h1 hroom hfit
        refine ⟨_, _, hr, ?_⟩
        have s1 := s0.set (w' := w.setRow g (cur.toList.take (m * i.size) ++ news ++ cur.toList.drop (m * i.size + news.length)).toArray) (setRow_heap w g cur _ e _ s0.get)
          (fun k hk x hx => by rw [setRow_other w g k _ hk]; exact hx)
        refine s1.ownOf hlen hroom hcm ?_ ?_
        · simp only [List.size_toArray, List.length_append, List.length_take, List.length_drop, Array.length_toList]; omega
        · show ((cur.toList.take (m * i.size) ++ news) ++ _).take _ = _
          rw [htake, ← hlen]; exact List.take_left
      · have holds : ∀ j u, xs[j]? = some u → w.cell? ((⟨g, 0, none⟩ : Addr).add j) = some u := fun j u hj => by
          have hg := s0.get
          have hjl : j < m * i.size := by rw [← hxl]; exact (List.getElem?_eq_some_iff.1 hj).1
          rw [← htake, List.getElem?_take, if_pos hjl] at hj
          rw [Addr.add_lit]; unfold World.cell?; rw [hg]; simpa using hj
        have hr := run_append_grow (P := P) w t ty e i z ht hi hz ⟨g, 0, none⟩ m cap xs hxl holds b m2 c news hl hnews (by omega) (by omega) (growslice_fits (by omega) hb)
        refine ⟨_, _, hr, ?_⟩
        have hge := grownCap_ge w (m + m2) cap e
        have hcm := grownCap_le_maxLen w (m + m2) cap e (by unfold maxLen; omega)
        have s1 : St w.drew M H := s0.drop.mono_heap rfl
        have s2 := s1.new (w' := w.drew.alloc (.cells (xs.toArray ++ news.toArray ++ Builtin.zeroCells z.cells (grownCap w (m + m2) cap e - (m + m2))) e)) rfl
        exact s2.ownOf hlen hge hcm (by
          simp only [Array.size_append, List.size_toArray, size_zeroCells, hzs, hxl, hl, ← Nat.add_mul]; congr 1; omega) (by
          simp only [Array.toList_append]; rw [← hlen]; exact List.take_left)
  · have hn : news = [] := List.eq_nil_of_length_eq_zero (by simpa using hl)
    subst hn
    rw [List.append_nil, Nat.add_zero]
    rcases hc with ⟨rfl, rfl, _⟩ | ⟨g, cap, cur, rfl, _, hmc, _⟩
    · exact ⟨_, _, run_append_none ht hi none 0 0 c (Nat.le_refl _) w, s⟩
    · exact ⟨_, _, run_append_none ht hi _ m cap c hmc w, s⟩
/-- freezing what is owned -/
theorem St.freezeC {α : Type} {R : Hp → List Value → α → Prop} {l : List α} (s : St w M (OwnC e sz v l.length xs :: H)) (hlen : l.length ≤ 2 ^ 44)
    (hR : ∀ i x, l[i]? = some x → ∀ M', Hp.le M M' → R M' ((xs.drop (i * sz)).take sz) x) : ∃ M', Hp.le M M' ∧ RdS sz R M' v l ∧ St w M' H := by
  obtain ⟨M', g, hM, hg, ⟨hxl, ho⟩, s'⟩ := s.freeze
  refine ⟨M', hM, ?_, s'⟩
  rcases ho with ⟨rfl, hl, rfl⟩ | ⟨g', cap, cur, rfl, rfl, h1, h2, h3, h4⟩
  · refine ⟨none, 0, by rw [hl], by omega, hlen, fun i x hx => ?_⟩
    have := (List.getElem?_eq_some_iff.1 hx).1; omega
  · refine ⟨_, cap, rfl, h1, hlen, fun i x hx => ?_⟩
    have hi := (List.getElem?_eq_some_iff.1 hx).1
    have hle : i * sz + sz ≤ l.length * sz := by have := Nat.mul_le_mul_right sz hi; rwa [Nat.succ_mul] at this
    have hxs : ((xs.drop (i * sz)).take sz).length = sz := by simp [hxl]; omega
    refine ⟨_, _, rfl, hxs, hR i x hx M' hM, fun j c hj => ?_⟩
    have hjs : j < sz := by rw [← hxs]; exact (List.getElem?_eq_some_iff.1 hj).1
    have hM' : M' g' = some (.cells cur e (0, 0)) := hg _ _ (by simp [Hp.one])
    rw [List.getElem?_take, if_pos hjs, List.getElem?_drop, ← h4, List.getElem?_take, if_pos (by omega)] at hj
    rw [Addr.add_lit]; unfold cellM; rw [hM']; simpa using hj
theorem St.freezeI {l : List Int} (s : St w M (OwnI e v l :: H)) (hlen : l.length ≤ 2 ^ 44) : ∃ M', Hp.le M M' ∧ RdI M' v l ∧ St w M' H :=
  St.freezeC s hlen fun i x hx M' _ => by
    show ((l.map (Value.int .i64)).drop (i * 1)).take 1 = [Value.int .i64 x]
    rw [Nat.mul_one, List.take_one, List.head?_drop, List.getElem?_map, hx]; rfl
theorem flatten_chunks {β : Type} {sz : Nat} : ∀ (ls : List (List β)), (∀ c ∈ ls, c.length = sz) → ls.flatten.length = ls.length * sz ∧ ∀ i c, ls[i]? = some c → (ls.flatten.drop (i * sz)).take sz = c
  | [], _ => ⟨by simp, fun i c h => by simp at h⟩
  | d :: ls, h => by
    obtain ⟨h1, h2⟩ := flatten_chunks ls (fun c hc => h c (List.mem_cons_of_mem _ hc))
    have hd := h d (List.mem_cons_self ..)
    refine ⟨by simp [h1, hd, Nat.succ_mul]; omega, fun i c hi => ?_⟩
    cases i with
    | zero => have : d = c := by simpa using hi
              subst this; simp [← hd]
    | succ i =>
      have := h2 i c (by simpa using hi)
      rw [List.flatten_cons, Nat.succ_mul, List.drop_append, List.drop_eq_nil_of_le (by omega), List.nil_append, show i * sz + sz - d.length = i * sz by omega]
      exact this
theorem Src.rd {α : Type} {R : Hp → List Value → α → Prop} {l : List α} {sv : Value} (ag : agree M w) (hsz : 0 < sz) (h : RdS sz R M sv l) :
    ∃ news : List Value, Src w sv l.length news ∧ news.length = l.length * sz ∧ ∀ i x, l[i]? = some x → R M ((news.drop (i * sz)).take sz) x := by
  classical
  obtain ⟨a, cap, rfl, h1, h2, h3⟩ := h
  have h4 : ∀ i, ∃ cs : List Value, ∀ x, l[i]? = some x → ∃ ad, a = some ad ∧ cs.length = sz ∧ R M cs x ∧ ∀ j c, cs[j]? = some c → cellM M (ad.add (i * sz + j)) = some c := by
    intro i
    cases hx : l[i]? with
    | none => exact ⟨[], fun x e => by cases e⟩
    | some x => obtain ⟨ad, cs, r⟩ := h3 i x hx; exact ⟨cs, fun y e => by cases e; exact ⟨ad, r⟩⟩
  have h5 : ∃ f : Nat → List Value, ∀ i x, l[i]? = some x → ∃ ad, a = some ad ∧ (f i).length = sz ∧ R M (f i) x ∧ ∀ j c, (f i)[j]? = some c → cellM M (ad.add (i * sz + j)) = some c :=
    ⟨fun i => Classical.choose (h4 i), fun i => Classical.choose_spec (h4 i)⟩
  obtain ⟨f, hf⟩ := h5
  have hfl : ∀ c ∈ (List.range l.length).map f, c.length = sz := by
    intro c hc
    obtain ⟨i, hi, rfl⟩ := List.mem_map.1 hc
    have hi := List.mem_range.1 hi
    obtain ⟨ad, _, e, _⟩ := hf i l[i] (List.getElem?_eq_getElem hi)
    exact e
  obtain ⟨c1, c2⟩ := flatten_chunks _ hfl
  have hget : ∀ i, i < l.length → ((List.range l.length).map f)[i]? = some (f i) := fun i hi => by simp [List.getElem?_range hi]
  refine ⟨((List.range l.length).map f).flatten, ?_, by rw [c1]; simp, fun i x hx => ?_⟩
  · cases a with
    | none =>
      refine .inr ⟨cap, rfl, ?_⟩
      cases l with
      | nil => rfl
      | cons x r => obtain ⟨ad, e, _⟩ := hf 0 x rfl; cases e
    | some ad =>
      refine .inl ⟨ad, cap, rfl, fun k u hk => cellM_world ag ?_⟩
      have hk' : k < l.length * sz := by have := (List.getElem?_eq_some_iff.1 hk).1; rw [c1] at this; simpa using this
      have hi : k / sz < l.length := Nat.div_lt_of_lt_mul (by rwa [Nat.mul_comm] at hk')
      have hj : k % sz < sz := Nat.mod_lt _ hsz
      have hkk : k / sz * sz + k % sz = k := by rw [Nat.mul_comm]; exact Nat.div_add_mod k sz
      have h6 := c2 _ _ (hget _ hi)
      obtain ⟨ad', e, _, _, h7⟩ := hf (k / sz) l[k / sz] (List.getElem?_eq_getElem hi)
      cases e
      have h8 := h7 (k % sz) u (by rw [← h6, List.getElem?_take, if_pos hj, List.getElem?_drop, hkk]; exact hk)
      rwa [hkk] at h8
  · have hi := (List.getElem?_eq_some_iff.1 hx).1
    rw [c2 _ _ (hget _ hi)]
    obtain ⟨_, _, _, h, _⟩ := hf i x hx
    exact h
theorem Src.rdI {l : List Int} {sv : Value} (ag : agree M w) (h : RdI M sv l) : Src w sv l.length (l.map (Value.int .i64)) := by
  obtain ⟨news, h1, h2, h3⟩ := Src.rd ag (by omega) h
  have : news = l.map (Value.int .i64) := by
    apply List.ext_getElem?
    intro i
    rw [List.getElem?_map]
    cases hx : l[i]? with
    | none => rw [List.getElem?_eq_none_iff] at hx; simp; omega
    | some x =>
      have := h3 i x hx
      simp only [Nat.mul_one, List.take_one, List.head?_drop] at this
      unfold RInt at this
      cases hn : news[i]? with
      | none => rw [hn] at this; simp at this
      | some u => rw [hn] at this; simp at this; simp [this]
  rw [← this]; exact h1
theorem Src.own {sv : Value} (s : St w M (OwnC e sz sv m xs :: H)) : Src w sv m xs := by
  obtain ⟨hxl, hc⟩ := s.ownCases
  rcases hc with ⟨rfl, rfl, _⟩ | ⟨g, cap, cur, rfl, s0, hmc, hcm, hcs, htake⟩
  · exact .inr ⟨0, rfl, rfl⟩
  · refine .inl ⟨_, _, rfl, fun j u hj => ?_⟩
    have hg := s0.get
    have hjl : j < m * sz := by rw [← hxl]; exact (List.getElem?_eq_some_iff.1 hj).1
    rw [← htake, List.getElem?_take, if_pos hjl] at hj
    rw [Addr.add_lit]; unfold World.cell?; rw [hg]; simpa using hj
theorem oneCell_ints (l : List Int) : ∀ u ∈ l.map (Value.int .i64), u.oneCell' = true := by
  intro u hu; obtain ⟨x, _, rfl⟩ := List.mem_map.1 hu; rfl
end own
end Go.Sl
