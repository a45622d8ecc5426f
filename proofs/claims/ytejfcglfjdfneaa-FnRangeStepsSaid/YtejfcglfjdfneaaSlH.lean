import Derived.Test.YtejfcglfjdfneaaSlG
namespace Go.Sl
open Go

/-- p is the address of element k of the slice value v -/
def IdxPtr (v : Value) (k sz : Nat) (p : Addr) : Prop := ∃ A m c, v = .slice (some A) m c ∧ k < m ∧ p = A.add (k * sz)
/-- v' is v[lo:hi] -/
def SubV (v : Value) (lo hi sz : Nat) (v' : Value) : Prop := ∃ A m c, v = .slice A m c ∧ lo ≤ hi ∧ hi ≤ c ∧ v' = .slice (if c = lo then A else A.map (·.add (lo * sz))) (hi - lo) (c - lo)
def LenV (v : Value) (m : Nat) : Prop := ∃ A c, v = .slice A m c ∧ m ≤ c
section
variable {α : Type} {sz : Nat} {R : Hp → List Value → α → Prop} {M : Hp} {w : World} {H : List HProp} {v : Value} {l : List α}
theorem RdS.len (h : RdS sz R M v l) : LenV v l.length := let ⟨a, c, e, h1, _⟩ := h; ⟨a, c, e, h1⟩
theorem RdS.bound (h : RdS sz R M v l) : l.length ≤ 17592186044416 := by obtain ⟨_, _, _, _, h, _⟩ := h; exact h
theorem RdS.at {k : Nat} {e : α} (h : RdS sz R M v l) (he : l[k]? = some e) : ∃ p cs, IdxPtr v k sz p ∧ cs.length = sz ∧ R M cs e ∧ ∀ j c, cs[j]? = some c → cellM M (p.add j) = some c := by
  obtain ⟨a, cap, rfl, h1, h2, h3⟩ := h
  obtain ⟨ad, cs, rfl, e2, e3, e4⟩ := h3 k e he
  exact ⟨_, cs, ⟨ad, _, _, rfl, (List.getElem?_eq_some_iff.1 he).1, rfl⟩, e2, e3, fun j c hj => by rw [add_add]; exact e4 j c hj⟩
theorem RdI.at {l : List Int} {k : Nat} {e : Int} (h : RdI M v l) (he : l[k]? = some e) : ∃ p, IdxPtr v k 1 p ∧ cellM M p = some (.int .i64 e) := by
  obtain ⟨p, cs, h1, h2, h3, h4⟩ := RdS.at h he
  unfold RInt at h3; subst h3
  exact ⟨p, h1, by have := h4 0 _ rfl; rwa [add_zero] at this⟩
theorem RdII.at {l : List (List Int)} {k : Nat} {e : List Int} (h : RdII M v l) (he : l[k]? = some e) : ∃ p u, IdxPtr v k 1 p ∧ cellM M p = some u ∧ RdI M u e := by
  obtain ⟨p, cs, h1, h2, ⟨u, rfl, hu⟩, h4⟩ := RdS.at h he
  exact ⟨p, u, h1, by have := h4 0 _ rfl; rwa [add_zero] at this, hu⟩
theorem RdS.subv (h : RdS sz R M v l) (lo hi : Nat) (h1 : lo ≤ hi) (h2 : hi ≤ l.length) : ∃ v', SubV v lo hi sz v' ∧ RdS sz R M v' ((l.take hi).drop lo) := by
  obtain ⟨a, cap, e, h3, h4⟩ := id h
  subst e
  exact ⟨_, ⟨a, _, cap, rfl, h1, by omega, rfl⟩, h.sub lo hi h1 h2⟩
theorem St.lenC {e : TypeId} {m : Nat} {xs : List Value} (s : St w M (OwnC e sz v m xs :: H)) : LenV v m := by
  obtain ⟨_, h⟩ := s.ownCases
  rcases h with ⟨rfl, rfl, _⟩ | ⟨g, cap, cur, rfl, _, h, _⟩
  · exact ⟨none, 0, rfl, Nat.le_refl _⟩
  · exact ⟨_, cap, rfl, h⟩
theorem St.atC {e : TypeId} {m : Nat} {xs : List Value} (s : St w M (OwnC e 1 v m xs :: H)) {k : Nat} {u : Value} (he : xs[k]? = some u) : ∃ p, IdxPtr v k 1 p ∧ w.cell? p = some u := by
  obtain ⟨hl, h⟩ := s.ownCases
  have hk : k < m := by have := (List.getElem?_eq_some_iff.1 he).1; omega
  rcases h with ⟨rfl, rfl, _⟩ | ⟨g, cap, cur, rfl, s0, h1, h2, h3, h4⟩
  · omega
  · refine ⟨_, ⟨_, _, _, rfl, hk, rfl⟩, ?_⟩
    have hg := s0.get
    rw [← h4, List.getElem?_take, if_pos (by omega)] at he
    rw [Addr.add_lit]; unfold World.cell?; rw [hg]; simpa using he
end

section
variable {r : Option Nat} {P : Program} {ops : Array Oper} {Q : Exit → Act → World → Prop} {a : Act} {w : World}
  {n : Nat} {ds : List Deferred} {l : List (Nat × Value)} {d : Nat} {op : Op} {ty t t' el : TypeId} {pos : String} {af : Array Edge} {gd : Option (Nat × Bool)} {x y z : Operand}
  {next : Act → World → Prop} {M : Hp} {H : List HProp} {v : Value} {sz by_ : Nat} {zv : Value} {κ κ' : IntKind} {i j : Int}
theorem R_idx {p : Addr} {k : Nat} (E : Env a n ds l) (hx : opv l x = some v) (hy : opv l y = some (.int κ i)) (T : SlT P t el sz by_ zv) (hp : IdxPtr v k sz p) (hi : i = (k : Int)) :
    (execOp a.eval ⟨some d, .indexAddr t x y, ty, pos, af, gd⟩).run P w = .ok (.value (.pointer (some p))) w := by
  obtain ⟨A, m, c, rfl, hk, rfl⟩ := hp
  subst hi
  simp [execOp, E.eval hx, E.eval hy, Instr.indexAt, asIntOf, run_underlying T.und, hk, T.sizeOf]
theorem e_idx {p : Addr} {k : Nat} (E : Env a n ds l) (hx : opv l x = some v) (hy : opv l y = some (.int κ i)) (T : SlT P t el sz by_ zv) (hp : IdxPtr v k sz p) (hi : i = (k : Int)) {r0 : Option Nat} {os0 : Array Oper} {Q0 : Exit → Act → World → Prop} {rest0 : List Oper} (k0 : ∀ a, Env a n ds ((d, (.pointer (some p))) :: l) → WL r0 P os0 Q0 rest0 a w) (hd0 : Nat.blt d n = true := by rfl) : WL r0 P os0 Q0 (⟨some d, .indexAddr t x y, ty, pos, af, none⟩ :: rest0) a w := O_val E hd0 rfl (R_idx E hx hy T hp hi) k0
theorem R_lenV {m : Nat} (E : Env a n ds l) (hx : opv l x = some v) (T : SlT P t el sz by_ zv) (hv : LenV v m) :
    (execOp a.eval ⟨some d, .call ⟨.builtin .len, #[x], #[t]⟩, ty, pos, af, gd⟩).run P w = .ok (.value (.int .i64 (m : Int))) w := by
  obtain ⟨A, c, rfl, _⟩ := hv
  exact R_len E hx T.und
theorem e_lenV {m : Nat} (E : Env a n ds l) (hx : opv l x = some v) (T : SlT P t el sz by_ zv) (hv : LenV v m) {r0 : Option Nat} {os0 : Array Oper} {Q0 : Exit → Act → World → Prop} {rest0 : List Oper} (k0 : ∀ a, Env a n ds ((d, (.int .i64 (m : Int))) :: l) → WL r0 P os0 Q0 rest0 a w) (hd0 : Nat.blt d n = true := by rfl) : WL r0 P os0 Q0 (⟨some d, .call ⟨.builtin .len, #[x], #[t]⟩, ty, pos, af, none⟩ :: rest0) a w := O_val E hd0 rfl (R_lenV E hx T hv) k0
theorem R_loadM {ad : Addr} {u : Value} (E : Env a n ds l) (hx : opv l x = some (.pointer (some ad))) (hg : ∀ w, (isAgg t).run P w = .ok false w) (ag : agree M w) (hc : cellM M ad = some u) :
    (execOp a.eval ⟨some d, .load t x, ty, pos, af, gd⟩).run P w = .ok (.value u) w := R_load E hx (hg w) (cellM_world ag hc)
theorem e_loadM {ad : Addr} {u : Value} (E : Env a n ds l) (hx : opv l x = some (.pointer (some ad))) (hg : ∀ w, (isAgg t).run P w = .ok false w) (ag : agree M w) (hc : cellM M ad = some u) {r0 : Option Nat} {os0 : Array Oper} {Q0 : Exit → Act → World → Prop} {rest0 : List Oper} (k0 : ∀ a, Env a n ds ((d, u) :: l) → WL r0 P os0 Q0 rest0 a w) (hd0 : Nat.blt d n = true := by rfl) : WL r0 P os0 Q0 (⟨some d, .load t x, ty, pos, af, none⟩ :: rest0) a w := O_val E hd0 rfl (R_loadM E hx hg ag hc) k0
theorem R_sliceLH {v' : Value} {lo hi : Nat} (E : Env a n ds l) (hx : opv l x = some v) (hy : opv l y = some (.int κ i)) (hz : opv l z = some (.int κ' j)) (T : SlT P t el sz by_ zv) (hs : SubV v lo hi sz v') (hi' : i = (lo : Int)) (hj : j = (hi : Int)) :
    (execOp a.eval ⟨some d, .slice t x (some y) (some z) none, ty, pos, af, gd⟩).run P w = .ok (.value v') w := by
  obtain ⟨A, m, c, rfl, h1, h2, rfl⟩ := hs
  subst hi'; subst hj
  simp [execOp, E.eval hx, E.eval hy, E.eval hz, Instr.sliceAt, Instr.slice, Instr.sliceBounds, Instr.sliceBound, asIntOf, run_underlying T.und, h1, h2, T.sizeOf]
theorem e_sliceLH {v' : Value} {lo hi : Nat} (E : Env a n ds l) (hx : opv l x = some v) (hy : opv l y = some (.int κ i)) (hz : opv l z = some (.int κ' j)) (T : SlT P t el sz by_ zv) (hs : SubV v lo hi sz v') {r0 : Option Nat} {os0 : Array Oper} {Q0 : Exit → Act → World → Prop} {rest0 : List Oper} (k0 : ∀ a, Env a n ds ((d, v') :: l) → WL r0 P os0 Q0 rest0 a w) (hi' : i = (lo : Int) := by omega) (hj : j = (hi : Int) := by omega) (hd0 : Nat.blt d n = true := by rfl) : WL r0 P os0 Q0 (⟨some d, .slice t x (some y) (some z) none, ty, pos, af, none⟩ :: rest0) a w := O_val E hd0 rfl (R_sliceLH E hx hy hz T hs hi' hj) k0
theorem R_sliceL {v' : Value} {lo hi : Nat} (E : Env a n ds l) (hx : opv l x = some v) (hy : opv l y = some (.int κ i)) (T : SlT P t el sz by_ zv) (hl : LenV v hi) (hs : SubV v lo hi sz v') (hi' : i = (lo : Int)) :
    (execOp a.eval ⟨some d, .slice t x (some y) none none, ty, pos, af, gd⟩).run P w = .ok (.value v') w := by
  obtain ⟨A, m, c, rfl, h1, h2, rfl⟩ := hs
  obtain ⟨_, _, e, _⟩ := hl
  cases e
  subst hi'
  simp [execOp, E.eval hx, E.eval hy, Instr.sliceAt, Instr.slice, Instr.sliceBounds, Instr.sliceBound, asIntOf, run_underlying T.und, h1, T.sizeOf]
theorem e_sliceL {v' : Value} {lo hi : Nat} (E : Env a n ds l) (hx : opv l x = some v) (hy : opv l y = some (.int κ i)) (T : SlT P t el sz by_ zv) (hl : LenV v hi) (hs : SubV v lo hi sz v') {r0 : Option Nat} {os0 : Array Oper} {Q0 : Exit → Act → World → Prop} {rest0 : List Oper} (k0 : ∀ a, Env a n ds ((d, v') :: l) → WL r0 P os0 Q0 rest0 a w) (hi' : i = (lo : Int) := by omega) (hd0 : Nat.blt d n = true := by rfl) : WL r0 P os0 Q0 (⟨some d, .slice t x (some y) none none, ty, pos, af, none⟩ :: rest0) a w := O_val E hd0 rfl (R_sliceL E hx hy T hl hs hi') k0
theorem R_sliceH {v' : Value} {hi : Nat} (E : Env a n ds l) (hx : opv l x = some v) (hz : opv l z = some (.int κ' j)) (T : SlT P t el sz by_ zv) (hs : SubV v 0 hi sz v') (hj : j = (hi : Int)) :
    (execOp a.eval ⟨some d, .slice t x none (some z) none, ty, pos, af, gd⟩).run P w = .ok (.value v') w := by
  obtain ⟨A, m, c, rfl, h1, h2, rfl⟩ := hs
  subst hj
  simp [execOp, E.eval hx, E.eval hz, Instr.sliceAt, Instr.slice, Instr.sliceBounds, Instr.sliceBound, asIntOf, run_underlying T.und, h2, T.sizeOf]
theorem e_sliceH {v' : Value} {hi : Nat} (E : Env a n ds l) (hx : opv l x = some v) (hz : opv l z = some (.int κ' j)) (T : SlT P t el sz by_ zv) (hs : SubV v 0 hi sz v') {r0 : Option Nat} {os0 : Array Oper} {Q0 : Exit → Act → World → Prop} {rest0 : List Oper} (k0 : ∀ a, Env a n ds ((d, v') :: l) → WL r0 P os0 Q0 rest0 a w) (hj : j = (hi : Int) := by omega) (hd0 : Nat.blt d n = true := by rfl) : WL r0 P os0 Q0 (⟨some d, .slice t x none (some z) none, ty, pos, af, none⟩ :: rest0) a w := O_val E hd0 rfl (R_sliceH E hx hz T hs hj) k0
theorem R_field {u : Value} {f : Nat} (E : Env a n ds l) (hx : opv l x = some v) (hf : ∀ w, (Instr.field t v f).run P w = .ok u w) :
    (execOp a.eval ⟨some d, .field t x f, ty, pos, af, gd⟩).run P w = .ok (.value u) w := by
  simp [execOp, E.eval hx, hf]
theorem e_field {u : Value} {f : Nat} (E : Env a n ds l) (hx : opv l x = some v) (hf : ∀ w, (Instr.field t v f).run P w = .ok u w) {r0 : Option Nat} {os0 : Array Oper} {Q0 : Exit → Act → World → Prop} {rest0 : List Oper} (k0 : ∀ a, Env a n ds ((d, u) :: l) → WL r0 P os0 Q0 rest0 a w) (hd0 : Nat.blt d n = true := by rfl) : WL r0 P os0 Q0 (⟨some d, .field t x f, ty, pos, af, none⟩ :: rest0) a w := O_val E hd0 rfl (R_field E hx hf) k0
theorem R_fieldAddr {u : Value} {f : Nat} (E : Env a n ds l) (hx : opv l x = some v) (hf : ∀ w, (Instr.fieldAt t v f).run P w = .ok u w) :
    (execOp a.eval ⟨some d, .fieldAddr t x f, ty, pos, af, gd⟩).run P w = .ok (.value u) w := by
  simp [execOp, E.eval hx, hf]
theorem e_fieldAddr {u : Value} {f : Nat} (E : Env a n ds l) (hx : opv l x = some v) (hf : ∀ w, (Instr.fieldAt t v f).run P w = .ok u w) {r0 : Option Nat} {os0 : Array Oper} {Q0 : Exit → Act → World → Prop} {rest0 : List Oper} (k0 : ∀ a, Env a n ds ((d, u) :: l) → WL r0 P os0 Q0 rest0 a w) (hd0 : Nat.blt d n = true := by rfl) : WL r0 P os0 Q0 (⟨some d, .fieldAddr t x f, ty, pos, af, none⟩ :: rest0) a w := O_val E hd0 rfl (R_fieldAddr E hx hf) k0
theorem R_build {u : Value} {parts : Array (Nat × Operand)} {vs : List Value} (E : Env a n ds l) (hp : opvs l (parts.toList.map (·.2)) = some vs) (hb : ∀ w, (Instr.build t ((parts.toList.map (·.1)).zip vs).toArray).run P w = .ok u w) :
    (execOp a.eval ⟨some d, .build t parts, ty, pos, af, gd⟩).run P w = .ok (.value u) w := by
  have : (parts.map fun (i, x) => (i, a.eval x)) = ((parts.toList.map (·.1)).zip vs).toArray := by
    rw [← E.evals hp]
    apply Array.toList_inj.1
    rw [Array.toList_map, List.map_map]
    simp [List.zip_map', Function.comp_def]
  simp [execOp, this, hb]
theorem e_build {u : Value} {parts : Array (Nat × Operand)} {vs : List Value} (E : Env a n ds l) (hp : opvs l (parts.toList.map (·.2)) = some vs) (hb : ∀ w, (Instr.build t ((parts.toList.map (·.1)).zip vs).toArray).run P w = .ok u w) {r0 : Option Nat} {os0 : Array Oper} {Q0 : Exit → Act → World → Prop} {rest0 : List Oper} (k0 : ∀ a, Env a n ds ((d, u) :: l) → WL r0 P os0 Q0 rest0 a w) (hd0 : Nat.blt d n = true := by rfl) : WL r0 P os0 Q0 (⟨some d, .build t parts, ty, pos, af, none⟩ :: rest0) a w := O_val E hd0 rfl (R_build E hp hb) k0

theorem bytes_le {b k : Nat} (h : b * k ≤ 281474976710656) : (b : Int) * (k : Int) ≤ 281474976710656 := by
  rw [← Int.natCast_mul]; omega
theorem X_makeN {k : Nat} (E : Env a n ds l) (S : St w M H) (hd : Nat.blt d n = true) (hx : opv l x = some (.int κ i)) (hy : opv l y = some (.int κ' j)) (T : SlT P t el sz by_ zv) (hi : i = (k : Int)) (hj : j = (k : Int)) (hb : by_ * k ≤ 281474976710656) (h63 : k ≤ 2 ^ 44)
    (kk : ∀ a w' v, Env a n ds ((d, v) :: l) → St w' M (OwnC el sz v k (madeCells zv.cells (k * sz)).toList :: H) → next a w') : (⟨some d, .makeSlice t x y, ty, pos, af, gd⟩ : Oper).wpIn (Fw r) 0 P a w next Q := by
  obtain ⟨ti, h1, rfl, rfl, h4⟩ := T.inf
  subst hi; subst hj
  have hr := run_make (P := P) w t el ti zv T.und h1 h4 κ κ' k k (by omega) (Int.le_refl _) (bytes_le hb) (by omega)
  simp only [Int.toNat_natCast] at hr
  refine X_val E hd rfl (v := .slice (some ⟨w.heap.size, 0, none⟩) k k) (w' := w.alloc (.cells (madeCells zv.cells (k * ti.size)) el)) (by simp only [execOp, E.eval hx, E.eval hy]; simp [hr]) fun a E => kk a _ _ E ?_
  exact (S.new rfl).ownOf (by simp [size_madeCells]) (Nat.le_refl _) (by unfold maxLen; omega) (size_madeCells _ _) (by rw [List.take_of_length_le (by simp [size_madeCells])])
theorem X_make0 {k : Nat} (E : Env a n ds l) (S : St w M H) (hd : Nat.blt d n = true) (hx : opv l x = some (.int κ i)) (hy : opv l y = some (.int κ' j)) (T : SlT P t el sz by_ zv) (hi : i = 0) (hj : j = (k : Int)) (hb : by_ * k ≤ 281474976710656) (h63 : k ≤ 2 ^ 44)
    (kk : ∀ a w' v, Env a n ds ((d, v) :: l) → St w' M (OwnC el sz v 0 [] :: H) → next a w') : (⟨some d, .makeSlice t x y, ty, pos, af, gd⟩ : Oper).wpIn (Fw r) 0 P a w next Q := by
  obtain ⟨ti, h1, rfl, rfl, h4⟩ := T.inf
  subst hi; subst hj
  have hr := run_make (P := P) w t el ti zv T.und h1 h4 κ κ' 0 k (by omega) (by omega) (bytes_le hb) (by omega)
  simp only [Int.toNat_natCast, Int.toNat_zero] at hr
  refine X_val E hd rfl (v := .slice (some ⟨w.heap.size, 0, none⟩) 0 k) (w' := w.alloc (.cells (madeCells zv.cells (k * ti.size)) el)) (by simp only [execOp, E.eval hx, E.eval hy]; simp [hr]) fun a E => kk a _ _ E ?_
  exact (S.new rfl).ownOf (by simp) (Nat.zero_le _) (by unfold maxLen; omega) (size_madeCells _ _) (by simp)
theorem X_append {m m2 : Nat} {xs news : List Value} {sv : Value} (E : Env a n ds l) (S : St w M (OwnC el sz v m xs :: H)) (hd : Nat.blt d n = true) (hx : opv l x = some v) (hy : opv l y = some sv) (T : SlT P t el sz by_ zv)
    (src : Src w sv m2 news) (hl : news.length = m2 * sz) (h1 : ∀ u ∈ news, u.oneCell' = true) (hb : (m + m2) * by_ ≤ 140737488355328) (h63 : m + m2 ≤ 2 ^ 44)
    (kk : ∀ a w' v', Env a n ds ((d, v') :: l) → St w' M (OwnC el sz v' (m + m2) (xs ++ news) :: H) → next a w') : (⟨some d, .call ⟨.builtin .append, #[x, y], #[t, t]⟩, ty, pos, af, gd⟩ : Oper).wpIn (Fw r) 0 P a w next Q := by
  obtain ⟨v', w', hr, hS⟩ := append_own (ty := ty) T S src hl h1 hb h63
  exact X_val E hd rfl (v := v') (w' := w') (by simp [execOp, resolve, invoke, builtin, E.eval hx, E.eval hy, hr]) fun a E => kk a _ _ E hS
/-- append of ints, from frozen memory -/
theorem X_appendI {xs ys : List Int} {sv : Value} (E : Env a n ds l) (S : St w M (OwnI el v xs :: H)) (hd : Nat.blt d n = true) (hx : opv l x = some v) (hy : opv l y = some sv) (T : SlT P t el 1 8 zv)
    (src : RdI M sv ys) (hb : xs.length + ys.length ≤ 2 ^ 43)
    (kk : ∀ a w' v', Env a n ds ((d, v') :: l) → St w' M (OwnI el v' (xs ++ ys) :: H) → next a w') : (⟨some d, .call ⟨.builtin .append, #[x, y], #[t, t]⟩, ty, pos, af, gd⟩ : Oper).wpIn (Fw r) 0 P a w next Q :=
  X_append (news := ys.map (.int .i64)) E S hd hx hy T (Src.rdI S.imm src) (by simp) (oneCell_ints _) (by omega) (by omega) fun a w' v' E S => kk a w' v' E (by rw [← List.length_append, ← List.map_append] at S; exact S)
/-- append of ints that were just built -/
theorem X_appendB {e' : TypeId} {xs ys : List Int} {sv : Value} (E : Env a n ds l) (S : St w M (OwnI e' sv ys :: OwnI el v xs :: H)) (hd : Nat.blt d n = true) (hx : opv l x = some v) (hy : opv l y = some sv) (T : SlT P t el 1 8 zv)
    (hb : xs.length + ys.length ≤ 2 ^ 43)
    (kk : ∀ a w' v', Env a n ds ((d, v') :: l) → St w' M (OwnI el v' (xs ++ ys) :: H) → next a w') : (⟨some d, .call ⟨.builtin .append, #[x, y], #[t, t]⟩, ty, pos, af, gd⟩ : Oper).wpIn (Fw r) 0 P a w next Q :=
  X_append E S.drop hd hx hy T (Src.own S) (by simp) (oneCell_ints _) (by omega) (by omega) fun a w' v' E S => kk a w' v' E (by rw [← List.length_append, ← List.map_append] at S; exact S)

theorem fill_seq : ∀ (vs : List Value) (k : Nat) (cells : Array Value), (∀ u ∈ vs, u.cells.size = 1) → k + vs.length ≤ cells.size →
    Instr.fill (fun i => some (i * 1, 1)) cells ((List.range' k vs.length).zip vs) = some (cells.toList.take k ++ (vs.map fun u => u.cells[0]!) ++ cells.toList.drop (k + vs.length)).toArray
  | [], k, cells, _, _ => by simp [Instr.fill]
  | u :: vs, k, cells, h1, h2 => by
    have hu := h1 u (List.mem_cons_self ..)
    simp only [List.length_cons] at h2
    have hk : k < cells.size := by omega
    obtain ⟨c, hc⟩ : ∃ c, u.cells = #[c] := ⟨u.cells[0], by apply Array.ext; simp [hu]; intro i h h'; have : i = 0 := by omega
                                                            subst this; simp⟩
    have ih := fill_seq vs (k + 1) (cells.setIfInBounds k c) (fun x hx => h1 x (List.mem_cons_of_mem _ hx)) (by simp; omega)
    simp only [List.length_cons, List.range'_succ, List.zip_cons_cons]
    unfold Instr.fill
    simp only [hc]
    rw [if_neg (by simp; omega)]
    simp only [Nat.mul_one] at ih ⊢
    have e : (#[c].zipIdx.foldl (fun cs (x : Value × Nat) => cs.setIfInBounds (k + x.2) x.1) cells) = cells.setIfInBounds k c := by simp
    rw [e, ih]
    congr 2
    have h3 : cells.toList.length = cells.size := by simp
    simp only [Array.toList_setIfInBounds, List.map_cons, hc]
    rw [List.take_succ_eq_append_getElem (by simp; omega)]
    rw [List.take_set_of_le (Nat.le_refl _), List.drop_set_of_lt (by omega)]
    simp [List.append_assoc, Nat.add_comm, Nat.add_left_comm]
theorem X_build1 {parts : Array (Nat × Operand)} {vs : List Value} {len : Nat} (E : Env a n ds l) (S : St w M H) (hd : Nat.blt d n = true) (T : SlT P t el 1 by_ zv) (hlen : Nat.ble len 1000 = true)
    (h1 : parts.toList.map (·.1) = List.range' 0 len) (hp : opvs l (parts.toList.map (·.2)) = some vs) (hc : ∀ u ∈ vs, u.oneCell' = true)
    (kk : ∀ a w' v, Env a n ds ((d, v) :: l) → St w' M (OwnC el 1 v len vs :: H) → next a w') : (⟨some d, .buildSlice t len parts, ty, pos, af, gd⟩ : Oper).wpIn (Fw r) 0 P a w next Q := by
  obtain ⟨ti, h2, h3, h4, h5⟩ := T.inf
  have hln : len ≤ 1000 := by simpa using hlen
  have hvl : vs.length = len := by
    have e := congrArg List.length h1
    have e' := congrArg List.length (E.evals hp)
    simp at e e'; omega
  have hcell : ∀ u ∈ vs, u.cells = #[u] := fun u hu => by have := hc u hu; cases u <;> first | rfl | (simp [Value.oneCell'] at this)
  have hpp : (parts.map fun (i, x) => (i, a.eval x)).toList = (List.range' 0 vs.length).zip vs := by
    rw [hvl, ← h1, ← E.evals hp, Array.toList_map, List.map_map]
    simp [List.zip_map', Function.comp_def]
  have hmap : vs.map (fun u => u.cells[0]!) = vs := by
    conv => rhs; rw [← List.map_id vs]
    exact List.map_congr_left fun u hu => by rw [hcell u hu]; rfl
  by_cases h0 : len = 0
  · have hv0 : vs = [] := List.eq_nil_of_length_eq_zero (by omega)
    subst hv0; subst h0
    refine X_val E hd rfl (v := .slice (some ⟨w.heap.size, 0, none⟩) 0 0) (w' := w.alloc (.cells #[] el)) ?_ fun a E => kk a _ _ E ?_
    · obtain rfl : parts = #[] := by
        have := congrArg List.length h1
        simp at this; exact this
      simp only [execOp]
      simp [Instr.buildSlice, run_underlying T.und, T.sizeOf, Instr.fill, newRow, Array.range_zero']
    · exact (S.new rfl).ownOf (by simp) (Nat.le_refl _) (by unfold maxLen; omega) (by simp) (by simp)
  · have hzs : zv.cells.size = 1 := T.zsz
    have hf := fill_seq vs 0 (madeCells zv.cells len) (fun u hu => by rw [hcell u hu]; rfl) (by simp [size_madeCells]; omega)
    have hf2 : Instr.fill (fun i => some (i * 1, 1)) (madeCells zv.cells len) ((List.range' 0 vs.length).zip vs) = some vs.toArray := by
      rw [hf, hmap]
      simp
      rw [size_madeCells]; omega
    refine X_val E hd rfl (v := .slice (some ⟨w.heap.size, 0, none⟩) len len) (w' := w.alloc (.cells vs.toArray el)) ?_ fun a E => kk a _ _ E ?_
    · have hn : ¬ (len * 1 > 2 ^ 24) := by omega
      have hn2 : ¬ (len * 1 = 0) := by omega
      simp only [execOp]
      simp only [Instr.buildSlice, Sem.run_bind, run_underlying T.und, Result.andThen_ok, T.sizeOf, hn, hn2, if_false, Sem.run_pure, hpp]
      simp only [madeCells, Nat.mul_one] at hf2 ⊢
      simp [zeroValue, typeInfo, h2, h5, hf2, newRow]
    · exact (S.new rfl).ownOf (by omega) (Nat.le_refl _) (by unfold maxLen; omega) (by simp; omega) (by rw [List.take_of_length_le (by simp; omega)])
end
end Go.Sl
