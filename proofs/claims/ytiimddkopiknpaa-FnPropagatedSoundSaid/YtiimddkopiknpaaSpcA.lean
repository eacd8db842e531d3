/- Laws that the walk of simplifyPropClauses uses: an entry of a watch list in memory; the state in a round of its loop. -/
import Derived.Test.YtiimddkopiknpaaAbs
namespace Go.Proofs.Ytiimddkopiknpaa
open Go.RowKit

section
variable {Λ : Lay} {w w' : World} {m m' : List Int} {tr tr' : List Nat} {tv tv' : Value} {L L' : Nat → List Nat} {EV EV' : Nat → Value} {E E' : Nat → List (Nat × Nat)}

/-- The cells of an entry of a watch list. -/
theorem Mem.entry (h : Mem Λ w m tr tv L EV E) {z g n cap i : Nat} {e : Nat × Nat} (hz : z < 32) (hv : EV z = .slice (some ⟨g, 0, none⟩) n cap) (hi : (E z)[i]? = some e) :
    w.cell? ⟨g, i * 2, none⟩ = some (litV e.1) ∧ w.cell? ⟨g, i * 2 + 1, none⟩ = some (.pointer (some ⟨Λ.cb e.2, 0, none⟩)) ∧ (∀ j, w.frozen? ⟨g, j, none⟩ = false) ∧ n = (E z).length ∧ g < w.heap.size := by
  have ho := h.own z hz
  rw [hv] at ho
  have hf := flat_get Λ (E z) i e hi
  obtain ⟨g', cap', e1, c1, _, _, hlt⟩ := own_cell ho hf.1
  obtain ⟨g'', cap'', e2, c2, _, _, _⟩ := own_cell ho hf.2
  injection e1 with e1 e1' _
  injection e1 with e1
  injection e1 with e1
  injection e2 with e2 _ _
  injection e2 with e2
  injection e2 with e2
  subst e1 e2
  refine ⟨c1, c2, ?_, e1', hlt⟩
  intro j
  rcases ho.2 with ⟨hh, _⟩ | ⟨g3, cap3, cur, hh, _, hg, _⟩
  · cases hh
  · injection hh with hh _ _
    injection hh with hh
    injection hh with hh
    subst hh
    simp [World.frozen?, hg]

/-- An entry is overwritten. -/
theorem Mem.setEntry (ok : LayOk Λ) (h : Mem Λ w m tr tv L EV E) {z g n cap i : Nat} (e : Nat × Nat) (hz : z < 32) (hv : EV z = .slice (some ⟨g, 0, none⟩) n cap) :
    Mem Λ ((w.setCell ⟨g, i * 2, none⟩ (litV e.1)).setCell ⟨g, i * 2 + 1, none⟩ (.pointer (some ⟨Λ.cb e.2, 0, none⟩))) m tr tv L EV (upd E z ((E z).set i e)) := by
  have ho := h.own z hz
  rw [hv] at ho
  have e1 : n = (E z).length := by
    have := ho.1
    rcases ho.2 with ⟨hh, _⟩ | ⟨g3, cap3, cur, hh, _⟩
    · cases hh
    · injection hh
  rw [e1] at ho
  have h1 := own_set ho (i * 2) (litV e.1)
  have h2 := own_set h1 (i * 2 + 1) (.pointer (some ⟨Λ.cb e.2, 0, none⟩))
  refine h.chList ok (z := z) ?_ hz ?_
  · rw [hv]
    exact grownBy_trans (grownBy_setCell w ⟨g, i * 2, none⟩ _) (grownBy_setCell _ ⟨g, i * 2 + 1, none⟩ _)
  · rw [hv, e1, List.length_set, flat_set]
    exact h2

theorem flat_one (Λ : Lay) (es : List (Nat × Nat)) : ∀ v ∈ flat Λ es, v.oneCell' = true := by
  intro v hv
  obtain ⟨e, _, he⟩ := List.mem_flatMap.1 hv
  simp only [wat, List.mem_cons, List.not_mem_nil, or_false] at he
  rcases he with rfl | rfl <;> rfl

theorem own_len {B : Nat} {ee : TypeId} {size n : Nat} {v : Value} {xs : List Value} {g n' cap : Nat} (h : w.ownsRow B ee size v n xs) (hv : v = .slice (some ⟨g, 0, none⟩) n' cap) : n' = n := by
  subst hv
  rcases h.2 with ⟨hh, _⟩ | ⟨g3, cap3, cur, hh, _⟩
  · cases hh
  · injection hh

/-- The state at the head of a round of the loop over the clauses that the literal lit makes wanting: i of them are seen, j kept. -/
def Rnd (Λ : Lay) (T : Thy) (Bot : Prop) (lit ptr : Nat) (m0 : List Int) (tr0 : List Nat) (WV : Value) (jj i : Nat) (w : World) : Prop :=
  ∃ m tr tv L EV E, Mem Λ w m tr tv L EV E ∧ Abs Λ.K T Bot m tr L (upd E lit ((E lit).take jj ++ (E lit).drop i)) ∧
    Pen Λ.K m L (pd (tr.drop (ptr + 1)) lit fun k => ∃ o, (o, k) ∈ (E lit).drop i) ∧ EV lit = WV ∧ Ext m0 m ∧ ∃ x, tr = tr0 ++ x


theorem upd_upd {α : Type} (f : Nat → α) (z : Nat) (a b : α) : upd (upd f z a) z b = upd f z b := by
  funext y; unfold upd; split <;> rfl
theorem upd_comm {α : Type} (f : Nat → α) {z y : Nat} (a b : α) (h : z ≠ y) : upd (upd f z a) y b = upd (upd f y b) z a := by
  funext x; unfold upd
  by_cases h1 : x = y
  · subst h1; simp [show ¬ x = z from fun e => h e.symm]
  · simp [h1]
theorem upd_self {α : Type} (f : Nat → α) (z : Nat) : upd f z (f z) = f := by
  funext x; unfold upd; split <;> simp_all

theorem log_split {P : List (Nat × Nat)} {jj i : Nat} {e : Nat × Nat} (he : P[i]? = some e) : P.take jj ++ P.drop i = P.take jj ++ e :: P.drop (i + 1) := by
  have hlt := (List.getElem?_eq_some_iff.1 he).1
  rw [List.drop_eq_getElem_cons hlt, (List.getElem?_eq_some_iff.1 he).2]
theorem log_set {P : List (Nat × Nat)} {jj i : Nat} {e : Nat × Nat} (hji : jj ≤ i) (hi : i < P.length) : (P.set jj e).take (jj + 1) ++ (P.set jj e).drop (i + 1) = P.take jj ++ e :: P.drop (i + 1) := by
  have hlt : jj < P.length := by omega
  rw [List.drop_set_of_lt (by omega), List.take_set, List.take_succ_eq_append_getElem hlt]
  rw [List.set_append_right _ _ (by simp; omega)]
  simp [Nat.min_eq_left (by omega : jj ≤ P.length)]

/-- A clause that is satisfied is kept in the list, its blocking literal o'. -/
theorem rnd_keep (ok : LayOk Λ) {T : Thy} {Bot : Prop} {lit ptr jj i g n cap o' : Nat} {m0 : List Int} {tr0 : List Nat} {e : Nat × Nat} (hlit : lit < 16)
    (hm : Mem Λ w m tr tv L EV E) (ha : Abs Λ.K T Bot m tr L (upd E lit ((E lit).take jj ++ (E lit).drop i)))
    (hp : Pen Λ.K m L (pd (tr.drop (ptr + 1)) lit fun k => ∃ o, (o, k) ∈ (E lit).drop i)) (hev : EV lit = .slice (some ⟨g, 0, none⟩) n cap) (hx : Ext m0 m) (ht : ∃ x, tr = tr0 ++ x)
    (hji : jj ≤ i) (he : (E lit)[i]? = some e) (ho : o' ∈ L e.2) (hs : SatC m (L e.2)) :
    Rnd Λ T Bot lit ptr m0 tr0 (.slice (some ⟨g, 0, none⟩) n cap) (jj + 1) (i + 1) ((w.setCell ⟨g, jj * 2, none⟩ (litV o')).setCell ⟨g, jj * 2 + 1, none⟩ (.pointer (some ⟨Λ.cb e.2, 0, none⟩))) := by
  have hlt := (List.getElem?_eq_some_iff.1 he).1
  refine ⟨m, tr, tv, L, EV, _, hm.setEntry ok (z := lit) (o', e.2) (by omega) hev, ?_, ?_, hev, hx, ht⟩
  · simp only [upd_same]
    rw [upd_upd, log_set hji hlt]
    have := ha.blocker hlit (A := (E lit).take jj) (B := (E lit).drop (i + 1)) (o := e.1) (k := e.2) (o' := o') (by rw [upd_same, log_split he]) ho
    rwa [upd_upd] at this
  · simp only [upd_same]
    refine hp.next fun k hk hns _ hR => ?_
    obtain ⟨o, ho⟩ := hR
    rw [List.drop_set_of_lt (by omega)]
    rw [List.drop_eq_getElem_cons hlt, (List.getElem?_eq_some_iff.1 he).2] at ho
    rcases List.mem_cons.1 ho with e1 | e1
    · rw [← e1] at hs; exact absurd hs hns
    · exact ⟨o, e1⟩

/-- The clause moves to the list of another literal q that is not false. -/
theorem rnd_move {T : Thy} {Bot : Prop} {lit ptr jj i g n cap f q nn : Nat} {m0 : List Int} {tr0 : List Nat} {e : Nat × Nat} (hlit : lit < 16)
    (hm : Mem Λ w m tr tv (upd L e.2 (((L e.2).set 1 q).set nn (neg lit))) EV' (upd E (neg q) (E (neg q) ++ [(f, e.2)])))
    (ha : Abs Λ.K T Bot m tr L (upd E lit ((E lit).take jj ++ (E lit).drop i)))
    (hp : Pen Λ.K m L (pd (tr.drop (ptr + 1)) lit fun k => ∃ o, (o, k) ∈ (E lit).drop i)) (hev : EV' lit = .slice (some ⟨g, 0, none⟩) n cap) (hx : Ext m0 m) (ht : ∃ x, tr = tr0 ++ x)
    (he : (E lit)[i]? = some e) (h0 : (L e.2)[0]? = some f) (h1 : (L e.2)[1]? = some (neg lit)) (hn : 2 ≤ nn) (hq : (L e.2)[nn]? = some q) (hqf : ¬ fls m q) (hk : e.2 < Λ.K) :
    Rnd Λ T Bot lit ptr m0 tr0 (.slice (some ⟨g, 0, none⟩) n cap) jj (i + 1) w := by
  have hlt := (List.getElem?_eq_some_iff.1 he).1
  have hqy : q / 2 ≠ neg lit / 2 := (ha.ok e.2 hk).idx hq h1 (by omega)
  have hnq : lit ≠ neg q := by
    intro e
    rw [e, neg_neg] at hqy
    exact hqy rfl
  refine ⟨m, tr, tv, _, EV', _, hm, ?_, ?_, hev, hx, ht⟩
  · rw [upd_other _ _ hnq, upd_comm _ _ _ (Ne.symm hnq)]
    have := ha.move hlit (A := (E lit).take jj) (B := (E lit).drop (i + 1)) (o := e.1) (k := e.2) (by rw [upd_same, log_split he]) h0 h1 hn hq
    rwa [upd_upd, upd_other _ _ (Ne.symm hnq)] at this
  · rw [upd_other _ _ hnq]
    refine hp.move hk (ha.ok _ hk) h0 h1 hn hq hqf fun k' hne hR => ?_
    obtain ⟨o, ho⟩ := hR
    rw [List.drop_eq_getElem_cons hlt, (List.getElem?_eq_some_iff.1 he).2] at ho
    rcases List.mem_cons.1 ho with e1 | e1
    · exact absurd (by rw [← e1]) hne
    · exact ⟨o, e1⟩

/-- The clause is kept, and its first literal, the only one that is not false, is bound. -/
theorem rnd_unit {T : Thy} {Bot : Prop} {lit ptr jj i g n cap f : Nat} {v : Int} {m0 : List Int} {tr0 : List Nat} {e : Nat × Nat} (hlit : lit < 16) (hptr : ptr + 1 ≤ tr.length)
    (hm : Mem Λ w (setm m f v) (tr ++ [f]) tv L EV (upd E lit ((E lit).set jj (f, e.2)))) (ha : Abs Λ.K T Bot m tr L (upd E lit ((E lit).take jj ++ (E lit).drop i)))
    (hp : Pen Λ.K m L (pd (tr.drop (ptr + 1)) lit fun k => ∃ o, (o, k) ∈ (E lit).drop i)) (hev : EV lit = .slice (some ⟨g, 0, none⟩) n cap) (hx : Ext m0 m) (ht : ∃ x, tr = tr0 ++ x)
    (hji : jj ≤ i) (he : (E lit)[i]? = some e) (hk : e.2 < Λ.K) (ho : f ∈ L e.2) (h0 : lv m f = 0) (hv : 0 < v) (hT : T f) :
    Rnd Λ T Bot lit ptr m0 tr0 (.slice (some ⟨g, 0, none⟩) n cap) (jj + 1) (i + 1) w := by
  have hlt := (List.getElem?_eq_some_iff.1 he).1
  have hf16 : f < 16 := (ha.ok _ hk).rng f ho
  obtain ⟨x, rfl⟩ := ht
  refine ⟨_, _, tv, L, EV, _, hm, ?_, ?_, hev, hx.trans (ext_setm ha.mlen hf16 h0), ⟨x ++ [f], by simp⟩⟩
  · simp only [upd_same]
    rw [upd_upd, log_set hji hlt]
    have := ha.blocker hlit (A := (E lit).take jj) (B := (E lit).drop (i + 1)) (o := e.1) (k := e.2) (o' := f) (by rw [upd_same, log_split he]) ho
    rw [upd_upd] at this
    exact this.bind hf16 h0 hv hT
  · simp only [upd_same]
    rw [List.drop_set_of_lt (by omega)]
    have h1 : Pen Λ.K (setm m f v) L (pd ((tr0 ++ x ++ [f]).drop (ptr + 1)) lit fun k => ∃ o, (o, k) ∈ (E lit).drop i) := by
      refine hp.bind ha.mlen hf16 h0 hv ?_ ?_
      · rintro k y (h | h)
        · exact .inl (by rw [List.drop_append_of_le_length hptr]; exact List.mem_append_left _ h)
        · exact .inr h
      · intro k
        exact .inl (by rw [neg_neg, List.drop_append_of_le_length hptr]; simp)
    have hs : SatC (setm m f v) (L e.2) := ⟨f, ho, by unfold tru; rw [lv_setm_same ha.mlen hf16]; exact hv⟩
    refine h1.next fun k hk hns _ hR => ?_
    obtain ⟨o, ho⟩ := hR
    rw [List.drop_eq_getElem_cons hlt, (List.getElem?_eq_some_iff.1 he).2] at ho
    rcases List.mem_cons.1 ho with e1 | e1
    · rw [← e1] at hs; exact absurd hs hns
    · exact ⟨o, e1⟩

theorem st_one {m : List Int} {x : Nat} : st m x = 1 ↔ tru m x := by
  unfold st tru; split
  · omega
  · split <;> omega
theorem st_two {m : List Int} {x : Nat} : st m x = 2 ↔ fls m x := by
  unfold st fls; split
  · omega
  · split <;> omega
theorem st_zero {m : List Int} {x : Nat} : st m x = 0 ↔ lv m x = 0 := by
  unfold st; split
  · simp [*]
  · split <;> simp [*]
theorem sat_of_st {m : List Int} {l : List Nat} {x : Nat} (hx : x ∈ l) (h : st m x = 1) : SatC m l := ⟨x, hx, st_one.1 h⟩

/-- Two literals of a clause change places: in memory. -/
theorem Mem.swapped (ok : LayOk Λ) (h : Mem Λ w m tr tv L EV E) {k i j x y n : Nat} (hk : k < Λ.K) (hi : (L k)[i]? = some x) (hj : (L k)[j]? = some y)
    (hw : w' = ((w.setCell ⟨Λ.lb k, i, none⟩ (litV y)).setCell ⟨Λ.lb k, j, none⟩ (litV x)).drewN n) : Mem Λ w' m tr tv (upd L k (((L k).set i y).set j x)) EV E := by
  subst hw
  have h1 := (List.getElem?_eq_some_iff.1 hi).1
  have h2 := (List.getElem?_eq_some_iff.1 hj).1
  refine h.lits ok hk ?_ fun z a => ?_
  · exact grownBy_trans (grownBy_trans (grownBy_setCell w ⟨Λ.lb k, i, none⟩ _) (grownBy_setCell _ ⟨Λ.lb k, j, none⟩ _)) (grownBy_drewN _ n _)
  · exact ((a.set i y h1).set j x (by simpa using h2)).drewN n

/-- Behind the search for a literal that is not false: none is; or the clause has been moved. -/
def Srch (Λ : Lay) (T : Thy) (Bot : Prop) (lit ptr : Nat) (m0 : List Int) (tr0 : List Nat) (WV : Value) (jj i : Nat) (m : List Int) (tr : List Nat) (tv : Value) (L : Nat → List Nat) (EV : Nat → Value) (E : Nat → List (Nat × Nat)) (b f k : Nat) (found : Value) (w : World) : Prop :=
  (found = .bool false ∧ Mem Λ w m tr tv L EV E ∧ Row w b 110 [litV f, .pointer (some ⟨Λ.cb k, 0, none⟩)] ∧ ∀ nn y, 2 ≤ nn → (L k)[nn]? = some y → fls m y) ∨
  (found = .bool true ∧ Rnd Λ T Bot lit ptr m0 tr0 WV jj (i + 1) w)
def SrchL (Λ : Lay) (m : List Int) (tr : List Nat) (tv : Value) (L : Nat → List Nat) (EV : Nat → Value) (E : Nat → List (Nat × Nat)) (b f k kk : Nat) (w : World) : Prop :=
  Mem Λ w m tr tv L EV E ∧ Row w b 110 [litV f, .pointer (some ⟨Λ.cb k, 0, none⟩)] ∧ ∀ nn y, 2 ≤ nn → nn < kk → (L k)[nn]? = some y → fls m y

theorem Try.info110 : (Try.prog.info? 110).map (fun i => (i.zero, i.size, i.bytes)) = some (some (.agg #[.int .i32 0, .pointer none]), 2, 16) := by kernel_rfl

/-- One entry more in the list of another literal: behind the append to its array, and the store of its slice. -/
theorem watch_step (ok : LayOk Λ) (h : Mem Λ w m tr tv L EV E) {y g f k : Nat} {cap : Nat} {w1 : World} (hy : y < 16) (hg : w.grownBy w1 (EV y).ownBlock)
    (ho : w1.ownsRow Λ.Bt 110 2 (.slice (some ⟨g, 0, none⟩) ((E y).length + 1) cap) ((E y).length + 1) (flat Λ (E y) ++ [litV f, .pointer (some ⟨Λ.cb k, 0, none⟩)])) (hat : (EV y).ownBlock = some g ∨ g = w.heap.size) :
    Mem Λ (w1.setCell ⟨Λ.bh, y, none⟩ (.slice (some ⟨g, 0, none⟩) ((E y).length + 1) cap)) m tr tv L (upd EV y (.slice (some ⟨g, 0, none⟩) ((E y).length + 1) cap)) (upd E y (E y ++ [(f, k)])) := by
  refine h.chWatch ok (es := E y ++ [(f, k)]) hy hg ?_ ?_
  · rw [List.length_append, flat_append]
    exact ho
  · rcases hat with hat | hat
    · exact .inl (by rw [hat]; rfl)
    · exact .inr ⟨g, rfl, by omega⟩

/-- What is left to know of the memory behind a conflict: the solver's struct and its model. -/
def Weak (Λ : Lay) (w : World) : Prop := Below Λ.B0 Λ.w0 w ∧ ∃ (C : List Value) (tv : Value) (m : List Int), Row w Λ.s 78 C ∧ SRow Λ C tv ∧ Row w Λ.bm 51 (m.map (Value.int .i64)) ∧ m.length = 8
theorem Mem.weak (h : Mem Λ w m tr tv L EV E) : Weak Λ w := let ⟨C, r, hC⟩ := h.solver; ⟨h.bel, C, tv, m, r, hC, h.model, h.mlen⟩
theorem Weak.grown (ok : LayOk Λ) (h : Weak Λ w) {row : Option Nat} (hg : w.grownBy w' row) (hB : ∀ k, row = some k → Λ.B0 ≤ k) (h1 : row ≠ some Λ.s) (h2 : row ≠ some Λ.bm) : Weak Λ w' :=
  let ⟨b, C, tv, m, r, hC, rm, hl⟩ := h
  ⟨b.grown hg (Nat.le_trans ok.b0 b.size) hB, C, tv, m, r.kept hg h1, hC, rm.kept hg h2, hl⟩
def Fin (Λ : Lay) (T : Thy) (Bot : Prop) (ptr : Nat) (m0 : List Int) (tr0 : List Nat) (w : World) : Prop :=
  ∃ (m : List Int) (tr : List Nat) (tv : Value) (L : Nat → List Nat) (EV : Nat → Value) (E : Nat → List (Nat × Nat)), Mem Λ w m tr tv L EV E ∧ Abs Λ.K T Bot m tr L E ∧ Pen Λ.K m L (qu (tr.drop ptr)) ∧ Ext m0 m ∧ ∃ x, tr = tr0 ++ x
/-- A conflict; or the literal is propagated. -/
def SpcPost (Λ : Lay) (T : Thy) (Bot : Prop) (ptr : Nat) (m0 : List Int) (tr0 : List Nat) (e : Ending) (w : World) : Prop :=
  (∃ p, e = .returned (.pointer (some p)) ∧ Bot ∧ Weak Λ w) ∨ (e = .returned (.pointer none) ∧ Fin Λ T Bot ptr m0 tr0 w)
theorem Mem.lt_row (h : Mem Λ w m tr tv L EV E) {z g n cap : Nat} (hz : z < 32) (hv : EV z = .slice (some ⟨g, 0, none⟩) n cap) :
    ∃ cur : Array Value, w.heap[g]? = some (.cells cur 110 (0, 0)) ∧ (E z).length ≤ cap ∧ cur.size = cap * 2 ∧ cur.toList.take ((E z).length * 2) = flat Λ (E z) := by
  have ho := h.own z hz
  rw [hv] at ho
  rcases ho.2 with ⟨hh, _⟩ | ⟨g3, cap3, cur, hh, _, hg, hcap, _, hsz, ht⟩
  · cases hh
  · injection hh with hh _ hh3
    injection hh with hh
    injection hh with hh
    subst hh hh3
    exact ⟨cur, hg, hcap, hsz, ht⟩
end
end Go.Proofs.Ytiimddkopiknpaa
