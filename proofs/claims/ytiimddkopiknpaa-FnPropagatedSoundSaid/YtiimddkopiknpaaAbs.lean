/- The plain law of watched literals: what the watch lists and the bindings satisfy, and that each step of propagation keeps it. No program in it. -/
import Derived.Test.YtiimddkopiknpaaPropU
namespace Go.Proofs.Ytiimddkopiknpaa
open Go.RowKit

def tru (m : List Int) (l : Nat) : Prop := 0 < lv m l
def fls (m : List Int) (l : Nat) : Prop := lv m l < 0

theorem sgn_neg (l : Nat) (x : Int) : sgn (neg l) x = - sgn l x := by
  unfold sgn; rw [neg_mod]; split <;> split <;> omega
theorem lv_neg (m : List Int) (l : Nat) : lv m (neg l) = - lv m l := by
  unfold lv; rw [neg_var, sgn_neg]
theorem fls_iff {m : List Int} {l : Nat} : fls m l ↔ tru m (neg l) := by unfold fls tru; rw [lv_neg]; omega
theorem tru_iff {m : List Int} {l : Nat} : tru m l ↔ fls m (neg l) := by unfold fls tru; rw [lv_neg]; omega
theorem tru_not_fls {m : List Int} {l : Nat} (h : tru m l) : ¬ fls m l := by unfold fls tru at *; omega
theorem sgn_sgn (l : Nat) (x : Int) : sgn l (sgn l x) = x := by unfold sgn; split <;> omega
theorem var_eq {l l' : Nat} (h : l' / 2 = l / 2) : l' = l ∨ l' = neg l := by unfold neg; split <;> omega

theorem lv_setm_same {m : List Int} {l : Nat} {v : Int} (hm : m.length = 8) (hl : l < 16) : lv (setm m l v) l = v := by
  unfold lv setm
  have : l / 2 < m.length := by omega
  simp [this, sgn_sgn]
theorem lv_setm_other {m : List Int} {l l' : Nat} {v : Int} (h : l' / 2 ≠ l / 2) : lv (setm m l v) l' = lv m l' := by
  unfold lv setm
  simp only [List.getD_eq_getElem?_getD]
  rw [List.getElem?_set_ne (fun e => h e.symm)]
theorem setm_length (m : List Int) (l : Nat) (v : Int) : (setm m l v).length = m.length := by simp [setm]

/-- What is true stays so. -/
def Ext (m m' : List Int) : Prop := ∀ l, tru m l → tru m' l
theorem Ext.refl (m : List Int) : Ext m m := fun _ h => h
theorem Ext.trans {a b c : List Int} (h : Ext a b) (h' : Ext b c) : Ext a c := fun l hl => h' l (h l hl)
theorem Ext.fls {m m' : List Int} (h : Ext m m') {l : Nat} (hl : fls m l) : fls m' l := fls_iff.2 (h _ (fls_iff.1 hl))
theorem setm_cases {m : List Int} {l : Nat} {v : Int} (hm : m.length = 8) (hl : l < 16) (x : Nat) : (x = l ∧ lv (setm m l v) x = v) ∨ (x = neg l ∧ lv (setm m l v) x = -v) ∨ (x / 2 ≠ l / 2 ∧ lv (setm m l v) x = lv m x) := by
  by_cases h : x / 2 = l / 2
  · rcases var_eq h with rfl | rfl
    · exact .inl ⟨rfl, lv_setm_same hm hl⟩
    · exact .inr (.inl ⟨rfl, by rw [lv_neg, lv_setm_same hm hl]⟩)
  · exact .inr (.inr ⟨h, lv_setm_other h⟩)
theorem ext_setm {m : List Int} {l : Nat} {v : Int} (hm : m.length = 8) (hl : l < 16) (h0 : lv m l = 0) : Ext m (setm m l v) := by
  intro x hx
  unfold tru at *
  rcases setm_cases (v := v) hm hl x with ⟨rfl, _⟩ | ⟨rfl, _⟩ | ⟨_, h⟩
  · omega
  · rw [lv_neg] at hx; omega
  · rw [h]; exact hx

def SatC (m : List Int) (c : List Nat) : Prop := ∃ x ∈ c, tru m x
theorem SatC.ext {m m' : List Int} {c : List Nat} (h : SatC m c) (e : Ext m m') : SatC m' c := let ⟨x, hx, ht⟩ := h; ⟨x, hx, e x ht⟩

/-- What is forced, and what is refuted, is closed under the clause c. -/
structure Rules (T : Nat → Prop) (Bot : Prop) (c : List Nat) : Prop where
  one : ∀ x ∈ c, (∀ y ∈ c, y ≠ x → T (neg y)) → T x
  none : (∀ y ∈ c, T (neg y)) → Bot

structure ClOk (l : List Nat) : Prop where
  rng : ∀ x ∈ l, x < 16
  dv : (l.map (· / 2)).Nodup

theorem ClOk.idx {l : List Nat} (h : ClOk l) {i j x y : Nat} (hi : l[i]? = some x) (hj : l[j]? = some y) (hne : i ≠ j) : x / 2 ≠ y / 2 := by
  intro e
  have h1 : (l.map (· / 2))[i]? = some (x / 2) := by simp [hi]
  have h2 : (l.map (· / 2))[j]? = some (x / 2) := by simp [hj, e]
  have hlt : i < (l.map (· / 2)).length := (List.getElem?_eq_some_iff.1 h1).1
  exact hne ((List.getElem?_inj hlt h.dv).1 (h1.trans h2.symm))

theorem ClOk.len8 {l : List Nat} (h : ClOk l) : l.length ≤ 8 := by
  have h2 : ∀ a ∈ l.map (· / 2), a ∈ List.range 8 := by
    intro a ha
    obtain ⟨x, hx, rfl⟩ := List.mem_map.1 ha
    have := h.rng x hx
    exact List.mem_range.2 (by omega)
  simpa using h.dv.length_le_of_subset h2

theorem ClOk.perm {l l' : List Nat} (h : ClOk l) (p : l'.Perm l) : ClOk l' :=
  ⟨fun x hx => h.rng x (p.mem_iff.1 hx), (p.map (· / 2)).nodup_iff.2 h.dv⟩
theorem Rules.perm {T : Nat → Prop} {Bot : Prop} {l l' : List Nat} (h : Rules T Bot l) (p : l'.Perm l) : Rules T Bot l' :=
  ⟨fun x hx hy => h.one x (p.mem_iff.1 hx) (fun y hy' hne => hy y (p.mem_iff.2 hy') hne), fun hy => h.none fun y hy' => hy y (p.mem_iff.2 hy')⟩
theorem SatC.perm {m : List Int} {l l' : List Nat} (h : SatC m l) (p : l'.Perm l) : SatC m l' := let ⟨x, hx, ht⟩ := h; ⟨x, p.mem_iff.2 hx, ht⟩

/-- Watched: at one of the first two places. -/
def Wd (l : List Nat) (x : Nat) : Prop := l[0]? = some x ∨ l[1]? = some x
theorem Wd.mem {l : List Nat} {x : Nat} (h : Wd l x) : x ∈ l := by rcases h with h | h <;> exact List.mem_of_getElem? h

/-- What is forced; and what the clauses are. -/
structure Thy where
  T : Nat → Prop
  L0 : Nat → List Nat
instance : CoeFun Thy (fun _ => Nat → Prop) := ⟨Thy.T⟩

structure Abs (K : Nat) (T : Thy) (Bot : Prop) (m : List Int) (tr : List Nat) (L : Nat → List Nat) (E : Nat → List (Nat × Nat)) : Prop where
  ok : ∀ k, k < K → ClOk (L k)
  len2 : ∀ k, k < K → 2 ≤ (L k).length
  rules : ∀ k, k < K → Rules T.T Bot (L k)
  reg : ∀ y, y < 16 → ∀ e ∈ E y, e.2 < K ∧ 3 ≤ (L e.2).length ∧ e.1 ∈ L e.2 ∧ Wd (L e.2) (neg y)
  nod : ∀ y, y < 16 → ((E y).map Prod.snd).Nodup
  regW : ∀ k, k < K → 3 ≤ (L k).length → ∀ x, Wd (L k) x → ∃ o, (o, k) ∈ E (neg x)
  bin : ∀ y, y < 16 → ∀ e ∈ E (y + 16), e.2 < K ∧ (L e.2 = [neg y, e.1] ∨ L e.2 = [e.1, neg y])
  binW : ∀ k, k < K → (L k).length = 2 → ∀ x, Wd (L k) x → ∃ o, (o, k) ∈ E (neg x + 16)
  sound : ∀ l, l < 16 → tru m l → T l
  trt : ∀ x ∈ tr, x < 16 ∧ tru m x
  mlen : m.length = 8
  bnd : tr.length + m.count 0 ≤ 200
  prm : ∀ k, k < K → (L k).Perm (T.L0 k)

/-- Clause k is satisfied, or what is false among its two watched literals is still to be looked at. -/
def Pen (K : Nat) (m : List Int) (L : Nat → List Nat) (pend : Nat → Nat → Prop) : Prop := ∀ k, k < K → SatC m (L k) ∨ ∀ x, Wd (L k) x → fls m x → pend k x

section
variable {K : Nat} {T : Thy} {Bot : Prop} {m : List Int} {tr : List Nat} {L : Nat → List Nat} {E : Nat → List (Nat × Nat)}

theorem Abs.len (h : Abs K T Bot m tr L E) {y : Nat} (hy : y < 16) : (E y).length ≤ K := by
  have h1 := h.nod y hy
  have h2 : ∀ a ∈ (E y).map Prod.snd, a ∈ List.range K := by
    intro a ha
    obtain ⟨e, he, rfl⟩ := List.mem_map.1 ha
    exact List.mem_range.2 (h.reg y hy e he).1
  have := h1.length_le_of_subset h2
  simpa using this

/-- The literals of clause k stand in another order, the two watched ones being the same. -/
theorem Abs.reorder (h : Abs K T Bot m tr L E) {k : Nat} {l : List Nat} (p : l.Perm (L k)) (hw : ∀ x, Wd l x ↔ Wd (L k) x) (h3 : 3 ≤ (L k).length) : Abs K T Bot m tr (upd L k l) E := by
  have hp : ∀ k', (upd L k l k').Perm (L k') := by
    intro k'
    by_cases e : k' = k
    · subst e; simpa using p
    · rw [upd_other _ _ e]
  have hW : ∀ k' x, Wd (upd L k l k') x ↔ Wd (L k') x := by
    intro k' x
    by_cases e : k' = k
    · subst e; simpa using hw x
    · rw [upd_other _ _ e]
  refine ⟨fun k' hk' => (h.ok k' hk').perm (hp k'), fun k' hk' => by rw [(hp k').length_eq]; exact h.len2 k' hk', fun k' hk' => (h.rules k' hk').perm (hp k'), ?_, h.nod, ?_, ?_, ?_, h.sound, h.trt, h.mlen, h.bnd, fun k' hk' => (hp k').trans (h.prm k' hk')⟩
  · intro y hy e he
    obtain ⟨a, b, c, d⟩ := h.reg y hy e he
    exact ⟨a, by rw [(hp _).length_eq]; exact b, (hp _).mem_iff.2 c, (hW _ _).2 d⟩
  · intro k' hk' h3' x hx
    rw [(hp k').length_eq] at h3'
    exact h.regW k' hk' h3' x ((hW k' x).1 hx)
  · intro y hy e he
    obtain ⟨a, b⟩ := h.bin y hy e he
    refine ⟨a, ?_⟩
    have hne : e.2 ≠ k := by
      intro hh
      rw [← hh] at h3
      rcases b with b | b <;> rw [b] at h3 <;> simp at h3
    rw [upd_other _ _ hne]; exact b
  · intro k' hk' h2' x hx
    rw [(hp k').length_eq] at h2'
    exact h.binW k' hk' h2' x ((hW k' x).1 hx)

theorem Pen.reorder {pend : Nat → Nat → Prop} (h : Pen K m L pend) {k : Nat} {l : List Nat} (p : l.Perm (L k)) (hw : ∀ x, Wd l x ↔ Wd (L k) x) : Pen K m (upd L k l) pend := by
  intro k' hk'
  by_cases e : k' = k
  · subst e
    simp only [upd_same]
    rcases h k' hk' with h | h
    · exact .inl (h.perm p)
    · exact .inr fun x hx hf => h x ((hw x).1 hx) hf
  · rw [upd_other _ _ e]; exact h k' hk'

/-- An entry of a list is replaced by another of the same clause. -/
theorem Abs.blocker (h : Abs K T Bot m tr L E) {y : Nat} (hy : y < 16) {A B : List (Nat × Nat)} {o o' k : Nat} (hE : E y = A ++ (o, k) :: B) (ho : o' ∈ L k) : Abs K T Bot m tr L (upd E y (A ++ (o', k) :: B)) := by
  have hmem : (o, k) ∈ E y := by rw [hE]; simp
  obtain ⟨a, b, _, d⟩ := h.reg y hy _ hmem
  refine ⟨h.ok, h.len2, h.rules, ?_, ?_, ?_, ?_, ?_, h.sound, h.trt, h.mlen, h.bnd, h.prm⟩
  · intro z hz e he
    by_cases hzy : z = y
    · subst hzy
      simp only [upd_same, List.mem_append, List.mem_cons] at he
      rcases he with he | rfl | he
      · exact h.reg z hz e (by rw [hE]; simp [he])
      · exact ⟨a, b, ho, d⟩
      · exact h.reg z hz e (by rw [hE]; simp [he])
    · rw [upd_other _ _ hzy] at he; exact h.reg z hz e he
  · intro z hz
    by_cases hzy : z = y
    · subst hzy
      have := h.nod z hz
      rw [hE] at this
      simpa using this
    · rw [upd_other _ _ hzy]; exact h.nod z hz
  · intro k' hk' h3 x hx
    obtain ⟨o1, h1⟩ := h.regW k' hk' h3 x hx
    by_cases hzy : neg x = y
    · rw [hzy] at h1 ⊢
      rw [hE] at h1
      simp only [upd_same, List.mem_append, List.mem_cons] at h1 ⊢
      rcases h1 with h1 | h1 | h1
      · exact ⟨o1, .inl h1⟩
      · injection h1 with _ h1
        subst h1
        exact ⟨o', .inr (.inl rfl)⟩
      · exact ⟨o1, .inr (.inr h1)⟩
    · rw [upd_other _ _ hzy]; exact ⟨o1, h1⟩
  · intro z hz e he
    rw [upd_other _ _ (by omega)] at he
    exact h.bin z hz e he
  · intro k' hk' h2 x hx
    have hx16 := (h.ok k' hk').rng x hx.mem
    rw [upd_other _ _ (by omega)]
    exact h.binW k' hk' h2 x hx

theorem perm_swap_one {l : List Nat} {i j x y : Nat} (hi : l[i]? = some x) (hj : l[j]? = some y) : ((l.set i y).set j x).Perm l := by
  have hi' := (List.getElem?_eq_some_iff.1 hi)
  have hj' := (List.getElem?_eq_some_iff.1 hj)
  obtain ⟨h1, h1'⟩ := hi'
  obtain ⟨h2, h2'⟩ := hj'
  by_cases e : i = j
  · subst e
    have hxy : x = y := h1'.symm.trans h2'
    subst hxy
    have : l.set i x = l := by rw [← h1']; exact List.set_getElem_self h1
    rw [this, this]
  · rw [List.perm_iff_count]
    intro a
    rw [List.count_set (by simpa using h2), List.count_set h1]
    rw [List.getElem_set_ne e]
    have p1 := List.count_pos_iff (a := x) (l := l)
    rw [h1', h2']
    have c1 : (if (x == a) = true then 1 else 0) ≤ l.count a := by
      split
      · rename_i hx; simp at hx; subst hx
        exact List.count_pos_iff.2 (List.mem_of_getElem? hi)
      · omega
    omega


theorem swap_get {l : List Nat} {i j x y : Nat} (hi : l[i]? = some x) (hj : l[j]? = some y) (n : Nat) : ((l.set i y).set j x)[n]? = if n = j then some x else if n = i then some y else l[n]? := by
  have h1 := (List.getElem?_eq_some_iff.1 hi).1
  have h2 := (List.getElem?_eq_some_iff.1 hj).1
  rw [List.getElem?_set]
  by_cases e : n = j
  · subst e; simp [h2]
  · rw [if_neg (fun h => e h.symm), if_neg e, List.getElem?_set]
    by_cases e' : n = i
    · subst e'; simp [h1]
    · rw [if_neg (fun h => e' h.symm), if_neg e']

/-- The two watched literals change places. -/
theorem wd_swap01 {l : List Nat} {x y : Nat} (hi : l[0]? = some x) (hj : l[1]? = some y) (z : Nat) : Wd ((l.set 0 y).set 1 x) z ↔ Wd l z := by
  unfold Wd
  rw [swap_get hi hj, swap_get hi hj]
  simp [hi, hj]
  exact Or.comm

/-- A clause is watched at another literal: it moves from the list y to that literal's list. -/
theorem Abs.move (h : Abs K T Bot m tr L E) {y : Nat} (hy : y < 16) {A B : List (Nat × Nat)} {o k f q n : Nat} (hE : E y = A ++ (o, k) :: B) (h0 : (L k)[0]? = some f) (h1 : (L k)[1]? = some (neg y)) (hn : 2 ≤ n) (hq : (L k)[n]? = some q) :
    Abs K T Bot m tr (upd L k (((L k).set 1 q).set n (neg y))) (upd (upd E y (A ++ B)) (neg q) (E (neg q) ++ [(f, k)])) := by
  have hmem : (o, k) ∈ E y := by rw [hE]; simp
  obtain ⟨hk, h3, _, _⟩ := h.reg y hy _ hmem
  simp only at hk h3
  have hok := h.ok k hk
  have p : (((L k).set 1 q).set n (neg y)).Perm (L k) := perm_swap_one h1 hq
  have hget := swap_get h1 hq
  have hqf : q / 2 ≠ f / 2 := hok.idx hq h0 (by omega)
  have hqy : q / 2 ≠ neg y / 2 := hok.idx hq h1 (by omega)
  have hfy : f / 2 ≠ neg y / 2 := hok.idx h0 h1 (by omega)
  have hq16 : q < 16 := hok.rng q (List.mem_of_getElem? hq)
  have hnq : neg q ≠ y := by
    intro e
    have := neg_var q
    rw [e] at this
    rw [neg_var] at hqy
    omega
  have hp : ∀ k', (upd L k (((L k).set 1 q).set n (neg y)) k').Perm (L k') := by
    intro k'
    by_cases e : k' = k
    · subst e; simpa using p
    · rw [upd_other _ _ e]
  have hWk : ∀ x, Wd (((L k).set 1 q).set n (neg y)) x ↔ x = f ∨ x = q := by
    intro x
    unfold Wd
    rw [hget, hget]
    rw [if_neg (by omega), if_neg (by omega), if_neg (by omega), if_pos rfl, h0]
    simp only [Option.some.injEq]
    constructor
    · rintro (e | e) <;> simp [e]
    · rintro (e | e) <;> simp [e]
  have hEy : ∀ e, e ∈ A ++ B → e ∈ E y ∧ e.2 ≠ k := by
    intro e he
    refine ⟨by rw [hE]; simp only [List.mem_append, List.mem_cons] at he ⊢; rcases he with he | he <;> simp [he], ?_⟩
    have nd := h.nod y hy
    rw [hE] at nd
    simp only [List.map_append, List.map_cons, List.nodup_append, List.nodup_cons, List.mem_cons, List.mem_map] at nd
    intro hh
    rcases List.mem_append.1 he with he | he
    · exact nd.2.2 e.2 ⟨e, he, rfl⟩ k (.inl rfl) hh
    · exact nd.2.1.1 ⟨e, he, hh⟩
  have hnew : ∀ e ∈ E (neg q), e.2 ≠ k := by
    intro e he hh
    obtain ⟨_, _, _, d⟩ := h.reg (neg q) (neg_lt hq16) e he
    rw [neg_neg, hh] at d
    rcases d with d | d
    · rw [h0] at d; injection d with d; rw [d] at hqf; exact hqf rfl
    · rw [h1] at d; injection d with d; rw [d] at hqy; exact hqy rfl
  have hreg : ∀ z, z < 16 → ∀ e ∈ E z, e.2 ≠ k → e.2 < K ∧ 3 ≤ (upd L k (((L k).set 1 q).set n (neg y)) e.2).length ∧ e.1 ∈ upd L k (((L k).set 1 q).set n (neg y)) e.2 ∧ Wd (upd L k (((L k).set 1 q).set n (neg y)) e.2) (neg z) := by
    intro z hz e he hne
    rw [upd_other _ _ hne]
    exact h.reg z hz e he
  have hf : f ∈ ((L k).set 1 q).set n (neg y) := p.mem_iff.2 (List.mem_of_getElem? h0)
  refine ⟨fun k' hk' => (h.ok k' hk').perm (hp k'), fun k' hk' => by rw [(hp k').length_eq]; exact h.len2 k' hk', fun k' hk' => (h.rules k' hk').perm (hp k'), ?_, ?_, ?_, ?_, ?_, h.sound, h.trt, h.mlen, h.bnd, fun k' hk' => (hp k').trans (h.prm k' hk')⟩
  · intro z hz e he
    by_cases hzq : z = neg q
    · subst hzq
      simp only [upd_same, List.mem_append, List.mem_singleton] at he
      rcases he with he | rfl
      · exact hreg _ hz e he (hnew e he)
      · simp only [upd_same]
        refine ⟨hk, by rw [p.length_eq]; exact h3, hf, ?_⟩
        rw [neg_neg]
        exact (hWk q).2 (.inr rfl)
    · rw [upd_other _ _ hzq] at he
      by_cases hzy : z = y
      · subst hzy
        simp only [upd_same] at he
        obtain ⟨h1, h2⟩ := hEy e he
        exact hreg _ hz e h1 h2
      · rw [upd_other _ _ hzy] at he
        by_cases hh : e.2 = k
        · obtain ⟨d1, d2, d3, d⟩ := h.reg z hz e he
          rw [hh] at d d2 d3 d1 ⊢
          simp only [upd_same]
          refine ⟨d1, by rw [p.length_eq]; exact d2, p.mem_iff.2 d3, (hWk _).2 ?_⟩
          rcases d with d | d
          · rw [h0] at d; injection d with d; exact .inl d.symm
          · rw [h1] at d; injection d with d
            have := congrArg neg d
            rw [neg_neg, neg_neg] at this
            exact absurd this.symm hzy
        · exact hreg _ hz e he hh
  · intro z hz
    by_cases hzq : z = neg q
    · subst hzq
      simp only [upd_same, List.map_append, List.map_cons, List.map_nil]
      rw [List.nodup_append]
      refine ⟨h.nod _ hz, by simp, ?_⟩
      intro a ha b hb
      simp only [List.mem_singleton] at hb
      subst hb
      obtain ⟨e, he, rfl⟩ := List.mem_map.1 ha
      exact hnew e he
    · rw [upd_other _ _ hzq]
      by_cases hzy : z = y
      · subst hzy
        have nd := h.nod z hz
        rw [hE] at nd
        simp only [upd_same]
        refine List.Nodup.sublist ?_ nd
        exact List.Sublist.map _ (List.Sublist.append (List.Sublist.refl _) (List.sublist_cons_self _ _))
      · rw [upd_other _ _ hzy]; exact h.nod z hz
  · intro k' hk' h3' x hx
    by_cases e : k' = k
    · subst e
      simp only [upd_same] at hx
      rcases (hWk x).1 hx with rfl | rfl
      · obtain ⟨o1, ho1⟩ := h.regW k' hk' h3 x (.inl h0)
        have hne1 : neg x ≠ y := by
          intro e
          have := neg_var x
          rw [e] at this
          rw [neg_var] at hfy
          omega
        have hne2 : neg x ≠ neg q := by
          intro e
          have h1 := neg_var x
          have h2 := neg_var q
          rw [e] at h1
          omega
        exact ⟨o1, by rw [upd_other _ _ hne2, upd_other _ _ hne1]; exact ho1⟩
      · exact ⟨f, by simp⟩
    · rw [upd_other _ _ e] at hx h3'
      obtain ⟨o1, ho1⟩ := h.regW k' hk' h3' x hx
      refine ⟨o1, ?_⟩
      by_cases hzq : neg x = neg q
      · rw [hzq] at ho1 ⊢; simp [ho1]
      · rw [upd_other _ _ hzq]
        by_cases hzy : neg x = y
        · rw [hzy] at ho1 ⊢
          rw [hE] at ho1
          simp only [upd_same, List.mem_append, List.mem_cons] at ho1 ⊢
          rcases ho1 with a | a | a
          · exact .inl a
          · injection a with _ a; exact absurd a e
          · exact .inr a
        · rw [upd_other _ _ hzy]; exact ho1
  · intro z hz e he
    have := neg_lt hq16
    rw [upd_other _ _ (by omega), upd_other _ _ (by omega)] at he
    obtain ⟨a, b⟩ := h.bin z hz e he
    refine ⟨a, ?_⟩
    have hne : e.2 ≠ k := by
      intro hh
      rw [← hh] at h3
      rcases b with b | b <;> rw [b] at h3 <;> simp at h3
    rw [upd_other _ _ hne]; exact b
  · intro k' hk' h2' x hx
    have hne : k' ≠ k := by
      intro e
      subst e
      simp only [upd_same] at h2'
      rw [p.length_eq] at h2'
      omega
    rw [upd_other _ _ hne] at hx h2'
    have := neg_lt hq16
    rw [upd_other _ _ (by omega), upd_other _ _ (by omega)]
    exact h.binW k' hk' h2' x hx

theorem count_setm {v : Int} {l : Nat} (hm : m.length = 8) (hl : l < 16) (h0 : lv m l = 0) (hv : 0 < v) : (setm m l v).count 0 + 1 = m.count 0 := by
  have hlt : l / 2 < m.length := by omega
  have hz : m[l / 2] = 0 := by
    have := (sgn_zero l (m.getD (l / 2) 0)).1 h0
    simpa [hlt] using this
  have hne : sgn l v ≠ 0 := fun e => by have := (sgn_zero l v).1 e; omega
  unfold setm
  rw [List.count_set hlt, hz]
  have : 0 < m.count 0 := List.count_pos_iff.2 (List.mem_of_getElem hz)
  simp [hne]
  omega

/-- An open literal that is forced is bound. -/
theorem Abs.bind (h : Abs K T Bot m tr L E) {l : Nat} {v : Int} (hl : l < 16) (h0 : lv m l = 0) (hv : 0 < v) (hT : T l) : Abs K T Bot (setm m l v) (tr ++ [l]) L E := by
  have hext := ext_setm (v := v) h.mlen hl h0
  refine ⟨h.ok, h.len2, h.rules, h.reg, h.nod, h.regW, h.bin, h.binW, ?_, ?_, by rw [setm_length]; exact h.mlen, ?_, h.prm⟩
  · intro x hx ht
    unfold tru at ht
    rcases setm_cases (v := v) h.mlen hl x with ⟨rfl, _⟩ | ⟨rfl, e⟩ | ⟨_, e⟩
    · exact hT
    · omega
    · rw [e] at ht; exact h.sound x hx ht
  · intro x hx
    rcases List.mem_append.1 hx with hx | hx
    · exact ⟨(h.trt x hx).1, hext x (h.trt x hx).2⟩
    · simp only [List.mem_singleton] at hx
      subst hx
      exact ⟨hl, by unfold tru; rw [lv_setm_same h.mlen hl]; exact hv⟩
  · have := count_setm h.mlen hl h0 hv
    have := h.bnd
    simp; omega

theorem Pen.bind {pend pend' : Nat → Nat → Prop} (h : Pen K m L pend) {l : Nat} {v : Int} (hm : m.length = 8) (hl : l < 16) (h0 : lv m l = 0) (hv : 0 < v) (hp : ∀ k x, pend k x → pend' k x) (hn : ∀ k, pend' k (neg l)) :
    Pen K (setm m l v) L pend' := by
  intro k hk
  rcases h k hk with h | h
  · exact .inl (h.ext (ext_setm hm hl h0))
  · refine .inr fun x hx hf => ?_
    unfold fls at hf
    rcases setm_cases (v := v) hm hl x with ⟨rfl, e⟩ | ⟨rfl, _⟩ | ⟨_, e⟩
    · omega
    · exact hn k
    · rw [e] at hf; exact hp k x (h x hx hf)

theorem Pen.imp {pend pend' : Nat → Nat → Prop} (h : Pen K m L pend) (hp : ∀ k, k < K → ¬ SatC m (L k) → ∀ x, Wd (L k) x → fls m x → pend k x → pend' k x) : Pen K m L pend' := by
  intro k hk
  by_cases hs : SatC m (L k)
  · exact .inl hs
  · rcases h k hk with h | h
    · exact .inl h
    · exact .inr fun x hx hf => hp k hk hs x hx hf (h x hx hf)

/-- All other literals of a clause are false: the one that is left is forced; none left: a conflict. -/
theorem Abs.unit (h : Abs K T Bot m tr L E) {k x : Nat} (hk : k < K) (hx : x ∈ L k) (ha : ∀ y ∈ L k, y ≠ x → fls m y) : T x :=
  (h.rules k hk).one x hx fun y hy hne => h.sound _ (neg_lt ((h.ok k hk).rng y hy)) (fls_iff.1 (ha y hy hne))
theorem Abs.confl (h : Abs K T Bot m tr L E) {k : Nat} (hk : k < K) (ha : ∀ y ∈ L k, fls m y) : Bot :=
  (h.rules k hk).none fun y hy => h.sound _ (neg_lt ((h.ok k hk).rng y hy)) (fls_iff.1 (ha y hy))

/-- What is still to be looked at while the literal lit is propagated: what lies behind it on the trail; of it itself, the clauses of R. -/
def pd (rest : List Nat) (lit : Nat) (R : Nat → Prop) (k x : Nat) : Prop := neg x ∈ rest ∨ (x = neg lit ∧ R k)
def qu (rest : List Nat) (_k x : Nat) : Prop := neg x ∈ rest

theorem Pen.begin {ptr lit : Nat} (h : Pen K m L (qu (tr.drop ptr))) (hl : tr[ptr]? = some lit) : Pen K m L (pd (tr.drop (ptr + 1)) lit fun _ => True) :=
  h.imp fun k _ _ x _ _ hp => by
    unfold qu at hp
    have hlt := (List.getElem?_eq_some_iff.1 hl).1
    rw [List.drop_eq_getElem_cons hlt] at hp
    have : tr[ptr] = lit := (List.getElem?_eq_some_iff.1 hl).2
    rw [this] at hp
    rcases List.mem_cons.1 hp with e | e
    · exact .inr ⟨by rw [← e, neg_neg], trivial⟩
    · exact .inl e
theorem Pen.finish {rest : List Nat} {lit : Nat} {R : Nat → Prop} (h : Pen K m L (pd rest lit R)) (hR : ∀ k, k < K → ¬ R k) : Pen K m L (qu rest) :=
  h.imp fun k hk _ x _ _ hp => by
    rcases hp with hp | ⟨_, hp⟩
    · exact hp
    · exact absurd hp (hR k hk)
/-- The clauses of R that are satisfied need not be looked at. -/
theorem Pen.next {rest : List Nat} {lit : Nat} {R R' : Nat → Prop} (h : Pen K m L (pd rest lit R)) (hR : ∀ k, k < K → ¬ SatC m (L k) → Wd (L k) (neg lit) → R k → R' k) : Pen K m L (pd rest lit R') :=
  h.imp fun k hk hs x hw _ hp => by
    rcases hp with hp | ⟨e, hp⟩
    · exact .inl hp
    · subst e; exact .inr ⟨rfl, hR k hk hs hw hp⟩

/-- All watched literals are looked at: a clause is satisfied or its two watched literals are open. -/
theorem Pen.closed (h : Pen K m L (qu [])) {k : Nat} (hk : k < K) : SatC m (L k) ∨ ∀ x, Wd (L k) x → ¬ fls m x := by
  rcases h k hk with h | h
  · exact .inl h
  · exact .inr fun x hx hf => by have := h x hx hf; simp [qu] at this

/-- A clause watched anew: what is pending behind it. -/
theorem Pen.move {rest : List Nat} {y : Nat} {R R' : Nat → Prop} (h : Pen K m L (pd rest y R)) {k f q n : Nat} (hk : k < K) (hok : ClOk (L k)) (h0 : (L k)[0]? = some f) (h1 : (L k)[1]? = some (neg y)) (hn : 2 ≤ n) (hq : (L k)[n]? = some q) (hqf : ¬ fls m q)
    (hR : ∀ k', k' ≠ k → R k' → R' k') : Pen K m (upd L k (((L k).set 1 q).set n (neg y))) (pd rest y R') := by
  have hget := swap_get h1 hq
  intro k' hk'
  by_cases e : k' = k
  · subst e
    simp only [upd_same]
    rcases h k' hk with h | h
    · exact .inl (h.perm (perm_swap_one h1 hq))
    · refine .inr fun x hx hf => ?_
      unfold Wd at hx
      rw [hget, hget, if_neg (by omega), if_neg (by omega), if_neg (by omega), if_pos rfl, h0] at hx
      rcases hx with e | e
      · injection e with e
        subst e
        rcases h f (.inl h0) hf with hp | ⟨hp, _⟩
        · exact .inl hp
        · exact absurd (congrArg (· / 2) hp) (hok.idx h0 h1 (by omega))
      · injection e with e
        subst e
        exact absurd hf hqf
  · rw [upd_other _ _ e]
    rcases h k' hk' with h | h
    · exact .inl h
    · refine .inr fun x hx hf => ?_
      rcases h x hx hf with hp | ⟨hp, hp'⟩
      · exact .inl hp
      · exact .inr ⟨hp, hR k' e hp'⟩
end
end Go.Proofs.Ytiimddkopiknpaa
