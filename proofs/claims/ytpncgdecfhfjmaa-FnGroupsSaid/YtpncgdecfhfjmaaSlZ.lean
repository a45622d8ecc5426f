import Derived.Test.YtpncgdecfhfjmaaSlS
import Derived.Shelf.SlSortFuncK.WholeK
import Derived.Shelf.GgSortFunc.Tiny
set_option linter.unusedVariables false
/-! sort.Slice at a slice of structs of two cells, the first of them a number that the closure compares: the owned slice is left sorted by it. -/
namespace Go.Sl
open Go Go.Proofs Go.Sort Go.Lib
theorem St.ne_blk {w : World} {M : Hp} {H : List HProp} {b c : Nat} {o o' : Obj} (s : St w M (Go.Sl.blk b o :: Go.Sl.blk c o' :: H)) : b ≠ c := by
  obtain ⟨h, ⟨g1, g2, d, rfl, rfl, ⟨g3, g4, d', rfl, rfl, hH⟩⟩, _⟩ := s
  intro e; subst e
  rcases d b with h | h
  · simp [Hp.one] at h
  · simp [Hp.one, Hp.union] at h
abbrev Cell1 := { u : Value // u.oneCell' = true }
instance : Inhabited Cell1 := ⟨⟨.nilFunc, rfl⟩⟩
abbrev KRow := Int × Cell1
def encK (r : KRow) : List Value := [.int .i64 r.1, r.2.1]
def ltK (a b : KRow) : Bool := decide (a.1 < b.1)
theorem swo_ltK : SWO ltK := ⟨fun x => by simp [ltK], fun x y z h1 h2 => by simp [ltK] at *; omega, fun x y z h1 h2 => by simp [ltK] at *; omega⟩
theorem encK_one (x : KRow) : ∀ v ∈ encK x, v.oneCell' = true := by
  intro v hv; simp [encK] at hv; rcases hv with rfl | rfl
  · rfl
  · exact x.2.2
theorem flatK_list (d : Array KRow) : (flatK encK 2 d).toList = d.toList.flatMap encK := by
  obtain ⟨L⟩ := d
  apply List.ext_getElem?
  intro t
  have h1 : ∀ (L : List KRow), (L.flatMap encK).length = L.length * 2 := by
    intro L; induction L with
    | nil => rfl
    | cons a L ih => rw [List.flatMap_cons, List.length_append, ih]; simp [encK]; omega
  have h2 : ∀ (L : List KRow) (t : Nat) (h : t / 2 < L.length), (L.flatMap encK)[t]? = (encK L[t / 2])[t % 2]? := by
    intro L; induction L with
    | nil => intro t h; simp at h
    | cons a L ih =>
      intro t h
      rw [List.flatMap_cons]
      by_cases ht : t < 2
      · rw [List.getElem?_append_left (by simp [encK]; omega)]
        have : t / 2 = 0 := by omega
        simp only [this, List.getElem_cons_zero]
        rw [Nat.mod_eq_of_lt ht]
      · rw [List.getElem?_append_right (by simp [encK]; omega), show (encK a).length = 2 from rfl, ih (t - 2) (by simp at h; omega)]
        have e1 : (t - 2) / 2 = t / 2 - 1 := by omega
        have e2 : (t - 2) % 2 = t % 2 := by omega
        have e3 : t / 2 = (t / 2 - 1) + 1 := by omega
        rw [e2]
        congr 2
        rw [List.getElem_cons]
        rw [dif_neg (by omega)]
        congr 1
  by_cases ht : t < L.length * 2
  · have hd : t / 2 < L.length := by omega
    rw [h2 L t hd]
    have hs : t < (flatK encK 2 ⟨L⟩).size := by rw [size_flatK]; exact ht
    have e := get_flatK encK 2 ⟨L⟩ t (by simpa using ht)
    rw [Array.getElem?_toList, Array.getElem?_eq_getElem hs]
    rw [getElem!_pos (flatK encK 2 ⟨L⟩) t hs] at e
    rw [e]
    have e4 : (⟨L⟩ : Array KRow)[t / 2]! = L[t / 2] := by rw [getElem!_pos (⟨L⟩ : Array KRow) (t / 2) (by simpa using hd)]; rfl
    rw [e4]
    have h5 : t % 2 < (encK L[t / 2]).length := by simp [encK]; omega
    rw [getElem!_pos (encK L[t / 2]) (t % 2) h5, List.getElem?_eq_getElem h5]
  · rw [List.getElem?_eq_none (by rw [Array.length_toList, size_flatK]; simpa using Nat.le_of_not_lt ht), List.getElem?_eq_none (by show (L.flatMap encK).length ≤ t; rw [h1]; omega)]
theorem holdsK_of {w : World} {g : Nat} {cur : Array Value} {e : TypeId} {L : List KRow} (hb : w.heap[g]? = some (.cells cur e (0, 0))) (ht : cur.toList.take (L.length * 2) = L.flatMap encK) : HoldsK encK 2 w g 0 L.toArray := by
  intro j hj
  rw [size_flatK] at hj
  have hj' : j < L.length * 2 := by simpa using hj
  refine ⟨?_, by simp [World.frozen?, hb]⟩
  have h1 : (cur.toList.take (L.length * 2))[j]? = (flatK encK 2 L.toArray).toList[j]? := by rw [ht, flatK_list]
  rw [List.getElem?_take_of_lt hj'] at h1
  simp only [World.cell?, hb, Nat.zero_add]
  simp only [Option.isSome_none, Bool.false_eq_true, if_false]
  have hs : j < (flatK encK 2 L.toArray).size := by rw [size_flatK]; exact hj
  rw [← Array.getElem?_toList, h1, Array.getElem?_toList, Array.getElem?_eq_getElem hs, getElem!_pos (flatK encK 2 L.toArray) j hs]; rfl
theorem St.sortedK {w : World} {M : Hp} {H : List HProp} {b n : Nat} {cur : Array Value} {e : TypeId} {os : Array Obj} {zs : Array KRow} (s : St w M (Go.Sl.blk b (.cells cur e (0, 0)) :: H)) :
    St (grow (putRowK encK 2 (Sort.ahead w n) b 0 zs) os) M (Go.Sl.blk b (.cells (putCells id 0 (flatK encK 2 zs) cur) e (0, 0)) :: H) := by
  have hb := s.get
  have hg : b < w.heap.size := (Array.getElem?_eq_some_iff.1 hb).1
  refine s.set ?_ (fun c hc x hx => ?_) rfl
  · unfold putRowK
    rw [heap_grow_old _ _ (by simpa using hg)]
    simp [putRow, mapBlock, Sort.ahead, Array.getElem?_modify, hb, onCells]
  · have hlt := (Array.getElem?_eq_some_iff.1 hx).1
    have hne : b ≠ c := fun e => hc e.symm
    unfold putRowK
    rw [heap_grow_old _ _ (by simpa using hlt)]
    simp [putRow, mapBlock, Sort.ahead, Array.getElem?_modify, hne, hx]
theorem St.grown {w : World} {M : Hp} {H : List HProp} {os : Array Obj} (s : St w M H) : St (grow w os) M H := by
  obtain ⟨h, a, b, c, d⟩ := s
  refine ⟨h, a, b, fun x o hx => ?_, d.1, fun x o hx => ?_⟩
  · have := c x o hx; rw [heap_grow_old _ _ (Array.getElem?_eq_some_iff.1 this).1]; exact this
  · have := d.2 x o hx; rw [heap_grow_old _ _ (Array.getElem?_eq_some_iff.1 this).1]; exact this
theorem take_putK (cur : Array Value) (F : Array Value) (h : F.size ≤ cur.size) : (putCells id 0 F cur).toList.take F.size = F.toList := by
  apply List.ext_getElem?
  intro j
  by_cases hj : j < F.size
  · rw [List.getElem?_take_of_lt hj, Array.getElem?_toList]
    simp [putCells, hj, show j < cur.size by omega]
  · rw [List.getElem?_take_eq_none (by omega), List.getElem?_eq_none (by simp; omega)]

section
variable {P : Program} {a : Act} {w : World} {n : Nat} {ds : List Deferred} {l : List (Nat × Value)} {d : Nat} {ty t e : TypeId} {pos : String} {af : Array Edge} {gd : Option (Nat × Bool)} {x : Operand} {v : Value}
theorem R_iface (E : Env a n ds l) (hx : opv l x = some v) (hu : P.underlying t = some (.slice e)) :
    (execOp a.eval ⟨some d, .makeInterface t x, ty, pos, af, gd⟩).run P w = .ok (.value (.iface t v)) w := by
  simp [execOp, E.eval hx, Instr.makeInterface, run_underlying hu]
theorem e_iface (E : Env a n ds l) (hx : opv l x = some v) (hu : P.underlying t = some (.slice e)) {r0 : Option Nat} {os0 : Array Oper} {Q0 : Exit → Act → World → Prop} {rest0 : List Oper} (k0 : ∀ a, Env a n ds ((d, (.iface t v)) :: l) → WL r0 P os0 Q0 rest0 a w) (hd0 : Nat.blt d n = true := by rfl) : WL r0 P os0 Q0 (⟨some d, .makeInterface t x, ty, pos, af, none⟩ :: rest0) a w := O_val E hd0 rfl (R_iface E hx hu) k0
end
def srtK {α : Type} (key : α → Int) (l : List α) : List α := l.mergeSort fun x y => decide (key x ≤ key y)
theorem srtK_perm {α : Type} (key : α → Int) (l : List α) : (srtK key l).Perm l := List.mergeSort_perm ..
theorem srtK_len {α : Type} (key : α → Int) (l : List α) : (srtK key l).length = l.length := List.length_mergeSort ..
theorem srtK_sorted {α : Type} (key : α → Int) (l : List α) : (srtK key l).Pairwise fun x y => key x ≤ key y := by
  have := List.pairwise_mergeSort (le := fun x y : α => decide (key x ≤ key y)) (fun a b c h1 h2 => by simp at *; omega) (fun a b => by simp; omega) l
  exact this.imp fun h => by simpa using h
theorem keyK_inj {α : Type} {key : α → Int} : ∀ {l : List α}, (l.map key).Nodup → ∀ a ∈ l, ∀ b ∈ l, key a = key b → a = b
  | [], _, _, h, _, _, _ => by cases h
  | x :: l, hn, a, ha, b, hb, e => by
    rw [List.map_cons, List.nodup_cons] at hn
    rcases List.mem_cons.1 ha with ha | ha
    · rcases List.mem_cons.1 hb with hb | hb
      · rw [ha, hb]
      · exact absurd (List.mem_map.2 ⟨b, hb, by rw [← e, ha]⟩) hn.1
    · rcases List.mem_cons.1 hb with hb | hb
      · exact absurd (List.mem_map.2 ⟨a, ha, by rw [e, hb]⟩) hn.1
      · exact keyK_inj hn.2 a ha b hb e
theorem sortedK_uniq {α : Type} {key : α → Int} {l a b : List α} (hn : (l.map key).Nodup) (ha : a.Perm l) (hb : b.Perm l) (sa : a.Pairwise fun x y => key x ≤ key y) (sb : b.Pairwise fun x y => key x ≤ key y) : a = b :=
  List.Perm.eq_of_pairwise (le := fun x y => key x ≤ key y) (fun x y hx hy h1 h2 => keyK_inj hn x (ha.subset hx) y (hb.subset hy) (by omega)) sa sb (ha.trans hb.symm)
section
variable {α : Type} {R : Hp → List Value → α → Prop} {key : α → Int} {M : Hp}
theorem rows_split (hR : ∀ M cs x, R M cs x → ∃ u : Cell1, cs = encK (key x, u)) : ∀ {l : List α} {xs : List Value}, RowsR R 2 M l xs → ∃ Z : List (α × KRow), Z.map Prod.fst = l ∧ (Z.map Prod.snd).flatMap encK = xs ∧ ∀ p ∈ Z, p.2.1 = key p.1 ∧ R M (encK p.2) p.1
  | [], xs, h => ⟨[], rfl, (List.eq_nil_of_length_eq_zero (by simpa using h.1)).symm, fun p hp => by cases hp⟩
  | x :: l, xs, h => by
    obtain ⟨h1, h2, h3⟩ := h
    simp only [List.length_cons] at h1
    have h0 := h3 0 x rfl
    rw [Nat.zero_mul, List.drop_zero] at h0
    obtain ⟨u, hu⟩ := hR _ _ _ h0
    obtain ⟨Z, z1, z2, z3⟩ := rows_split hR (l := l) (xs := xs.drop 2) ⟨by rw [List.length_drop]; omega, fun v hv => h2 v (List.mem_of_mem_drop hv), fun i y hy => by
      have := h3 (i + 1) y hy
      rw [List.drop_drop, show 2 + i * 2 = (i + 1) * 2 by omega]; exact this⟩
    refine ⟨(x, (key x, u)) :: Z, by simp [z1], ?_, fun p hp => ?_⟩
    · rw [List.map_cons, List.flatMap_cons, z2]
      show encK (key x, u) ++ _ = _
      rw [← hu, List.take_append_drop]
    · rcases List.mem_cons.1 hp with rfl | hp
      · exact ⟨rfl, by show R M (encK (key x, u)) x; rw [← hu]; exact h0⟩
      · exact z3 p hp
theorem rows_join : ∀ {Z : List (α × KRow)}, (∀ p ∈ Z, R M (encK p.2) p.1) → RowsR R 2 M (Z.map Prod.fst) ((Z.map Prod.snd).flatMap encK)
  | [], _ => RowsR.nil
  | p :: Z, h => by
    have h1 : RowsR R 2 M [p.1] (encK p.2) := ⟨rfl, encK_one p.2, fun i x hx => by
      have hi : i = 0 := by have := (List.getElem?_eq_some_iff.1 hx).1; simpa using this
      subst hi
      have : p.1 = x := by simpa using hx
      subst this
      rw [Nat.zero_mul, List.drop_zero, List.take_of_length_le (by simp [encK])]; exact h p (List.mem_cons_self ..)⟩
    have := h1.append (rows_join (Z := Z) fun q hq => h q (List.mem_cons_of_mem _ hq))
    simpa using this
end
theorem sortK_sp {P : Program} {f g : FuncId} {t e ts : TypeId} {Bs : Nat} (hcf : ∀ args w, (callFunc f args).run P w = .ok (.enter f args) w)
    (hless : ∀ (blk off c size : Nat) (W : World) (G : Nat → Int), W.cell? ⟨Bs, 0, none⟩ = some (.slice (some ⟨blk, off, none⟩) size c) → (∀ t, t < size → W.cell? ⟨blk, off + t * 2, none⟩ = some (.int .i64 (G t))) → ∀ i j : Nat, i < size → j < size → size < 4611686018427387904 →
      Calls P g #[.int .i64 i, .int .i64 j, .pointer (some ⟨Bs, 0, none⟩)] W fun e w' => e = .returned (.bool (decide (G i < G j))) ∧ ∃ q, w' = W.drewN q)
    (h2 : ∀ (blk c : Nat) (d : Array KRow) (w : World), 2 ≤ d.size → d.size < 4611686018427387904 → LessReadsK P g #[.pointer (some ⟨Bs, 0, none⟩)] encK 2 ltK blk 0 d.size w → HoldsK encK 2 w blk 0 d → blk < w.heap.size →
      Calls P f #[.iface t (.slice (some ⟨blk, 0, none⟩) d.size c), .func (.func g) #[] #[.pointer (some ⟨Bs, 0, none⟩)]] w fun e w' => e = .returned (.tuple #[]) ∧ ∃ d' n os, PermIn 0 d.size d d' ∧ SortedIn ltK 0 d.size d' ∧ w' = grow (putRowK encK 2 (Sort.ahead w n) blk 0 d') os)
    (h01 : ∀ (p : Option Addr) (n c : Nat) (w : World), n ≤ 1 → Calls P f #[.iface t (.slice p n c), .func (.func g) #[] #[.pointer (some ⟨Bs, 0, none⟩)]] w fun e w' => e = .returned (.tuple #[]) ∧ ∃ os, w' = grow w os)
    {α : Type} {R : Hp → List Value → α → Prop} {key : α → Int} (hR : ∀ M cs x, R M cs x → ∃ u : Cell1, cs = encK (key x, u)) (hRm : RMono R)
    {M : Hp} {v : Value} {l : List α} {xs : List Value} (hr : RowsR R 2 M l xs) (hn : (l.map key).Nodup) (hb : l.length ≤ 1000000000000) :
    Sp P (.func (.func f) #[] #[]) M [.iface t v, .func (.func g) #[] #[.pointer (some ⟨Bs, 0, none⟩)]] [OwnC e 2 v l.length xs, Go.Sl.blk Bs (.cells #[v] ts)]
      (fun r M' C' => ∃ xs', RowsR R 2 M' (srtK key l) xs' ∧ C' = [OwnC e 2 v (srtK key l).length xs', Go.Sl.blk Bs (.cells #[v] ts)]) := by
  intro w M1 H hM S
  replace S : St w M1 (OwnC e 2 v l.length xs :: Go.Sl.blk Bs (.cells #[v] ts) :: H) := S
  replace hr := hr.le hRm hM
  refine CallV.func hcf ?_
  by_cases hl : l.length ≤ 1
  · have e1 : srtK key l = l := by
      match l, hl with
      | [], _ => simp [srtK]
      | [x], _ => simp [srtK]
    obtain ⟨A, c, rfl, hc⟩ := St.lenC S
    refine (h01 A l.length c w hl).mono fun e' w' ⟨h3, os, h4⟩ => ?_
    subst h4
    exact ⟨_, h3, M1, _, Hp.le.refl _, ⟨xs, by rw [e1]; exact hr, rfl⟩, by rw [e1]; exact S.grown⟩
  · obtain ⟨hxl, ho⟩ := S.ownCases
    rcases ho with ⟨rfl, hl0, _⟩ | ⟨q, cap, cur, rfl, s0, a1, a2, a3, a4⟩
    · omega
    · obtain ⟨Z, z1, z2, z3⟩ := rows_split hR hr
      have hZ : (Z.map Prod.snd).length = l.length := by rw [← z1]; simp
      have hbq := s0.get
      have hBs : w.heap[Bs]? = some (.cells #[.slice (some ⟨q, 0, none⟩) l.length cap] ts) := s0.swap.get
      have hne : q ≠ Bs := s0.ne_blk
      have ht : cur.toList.take ((Z.map Prod.snd).length * 2) = (Z.map Prod.snd).flatMap encK := by rw [hZ, a4, z2]
      have hH : HoldsK encK 2 w q 0 (Z.map Prod.snd).toArray := holdsK_of hbq ht
      have hq : q < w.heap.size := (Array.getElem?_eq_some_iff.1 hbq).1
      have hds : (Z.map Prod.snd).toArray.size = l.length := by rw [List.size_toArray]; exact hZ
      have hlr : LessReadsK P g #[.pointer (some ⟨Bs, 0, none⟩)] encK 2 ltK q 0 (Z.map Prod.snd).toArray.size w := by
        intro m os dk hs i j hi hj
        have e5 : sortWorldK encK 2 w q 0 m dk os = putRowK encK 2 (grow (Sort.ahead w m) os) q 0 dk := by
          unfold sortWorldK; rw [putRowK_grow _ _ (Sort.ahead w m) _ q 0 _ hq]
        have hHg : HoldsK encK 2 (grow (Sort.ahead w m) os) q 0 (Z.map Prod.snd).toArray := holdsK_grow _ _ _ _ q 0 _ hq (holdsK_ahead _ _ _ _ _ _ _ hH)
        have hBc : w.cell? ⟨Bs, 0, none⟩ = some (.slice (some ⟨q, 0, none⟩) l.length cap) := by simp [World.cell?, hBs]
        rw [hds] at hi hj hs
        refine hless q 0 cap l.length _ (fun t => dk[t]!.1) ?_ (fun t ht => ?_) i j hi hj (by omega)
        · rw [e5, cell?_putRowK_other _ _ _ q 0 dk _ (by exact hne.symm), cell?_grow _ _ _ (by exact (Array.getElem?_eq_some_iff.1 hBs).1)]; exact hBc
        · rw [e5]; exact ((holdsK_putRowK _ _ _ q 0 _ dk hHg (by rw [hds]; exact hs)).cell (i := t) (c := 0) (by omega) (by omega)).1
      have hc := h2 q cap (Z.map Prod.snd).toArray w (by omega) (by omega) hlr hH hq
      rw [hds] at hc
      refine hc.mono fun e' w' ⟨h3, d', n, os, hp, hso, h4⟩ => ?_
      subst h4
      obtain ⟨p1, p2, p3⟩ := hp
      have hex : ∀ a : Array KRow, a.size = l.length → (a.extract 0 l.length).toList = a.toList := fun a ha => by rw [← ha]; simp
      rw [hex _ (by rw [p1, hds]), hex _ hds] at p3
      have p3 : d'.toList.Perm (Z.map Prod.snd) := p3
      have hd's : d'.size = l.length := by rw [p1, hds]
      have hsrt : d'.toList.Pairwise fun x y => x.1 ≤ y.1 := by
        rw [List.pairwise_iff_getElem]
        intro i j hi hj hij
        have hi' : i < d'.size := by simpa using hi
        have hj' : j < d'.size := by simpa using hj
        have := hso i j (by omega) hij (by omega)
        rw [getElem!_pos d' i hi', getElem!_pos d' j hj'] at this
        simp only [ltK, decide_eq_false_iff_not] at this
        simp only [Array.getElem_toList]; omega
      have hkeys : (Z.map Prod.snd).map Prod.fst = l.map key := by
        rw [← z1, List.map_map, List.map_map]
        exact List.map_congr_left fun p hp => (z3 p hp).1
      have hZs := srtK_perm (fun p : α × KRow => p.2.1) Z
      have hZsrt := srtK_sorted (fun p : α × KRow => p.2.1) Z
      have u1 : (srtK (fun p : α × KRow => p.2.1) Z).map Prod.snd = d'.toList :=
        sortedK_uniq (key := Prod.fst) (l := Z.map Prod.snd) (by rw [hkeys]; exact hn) (hZs.map _) p3 (List.pairwise_map.2 hZsrt) hsrt
      have u2 : (srtK (fun p : α × KRow => p.2.1) Z).map Prod.fst = srtK key l := by
        refine sortedK_uniq (key := key) (l := l) hn (by rw [← z1]; exact hZs.map _) (srtK_perm key l) ?_ (srtK_sorted key l)
        rw [List.pairwise_map]
        refine List.Pairwise.imp_of_mem (fun {a b} ha hb h => ?_) hZsrt
        rw [← (z3 a (hZs.subset ha)).1, ← (z3 b (hZs.subset hb)).1]; exact h
      have hrr : RowsR R 2 M1 (srtK key l) (d'.toList.flatMap encK) := by
        have := rows_join (R := R) (M := M1) (Z := srtK (fun p : α × KRow => p.2.1) Z) fun p hp => (z3 p (hZs.subset hp)).2
        rw [u1, u2] at this; exact this
      refine ⟨_, h3, M1, _, Hp.le.refl _, ⟨_, hrr, rfl⟩, ?_⟩
      have s1 := s0.sortedK (n := n) (os := os) (zs := d')
      have hlen : (srtK key l).length = l.length := srtK_len key l
      show St _ M1 (OwnC e 2 _ (srtK key l).length _ :: Go.Sl.blk Bs _ :: H)
      rw [hlen]
      refine s1.ownOf (by rw [← flatK_list]; simp [hd's]) a1 a2 (by simp [putCells, a3]) ?_
      have := take_putK cur (flatK encK 2 d') (by rw [size_flatK, hd's, a3]; exact Nat.mul_le_mul_right 2 a1)
      rw [size_flatK, hd's] at this
      rw [this, flatK_list]
end Go.Sl
