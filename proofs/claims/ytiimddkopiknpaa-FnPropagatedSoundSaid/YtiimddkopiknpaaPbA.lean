/- Plain laws of the simplification of a problem. -/
import Derived.Test.YtiimddkopiknpaaAbs
namespace Go.Proofs.Ytiimddkopiknpaa

/-- The last of n entries takes the place of the i-th one. -/
theorem rem_perm {α : Type} {l : List α} {n i : Nat} {x y : α} (hi : i < n) (hn : n ≤ l.length) (hx : l[i]? = some x) (hy : l[n - 1]? = some y) : (l.take n).Perm (x :: (l.set i y).take (n - 1)) := by
  obtain ⟨n, rfl⟩ : ∃ k, n = k + 1 := ⟨n - 1, by omega⟩
  simp only [Nat.add_sub_cancel] at hy ⊢
  have h1 : l.take (n + 1) = l.take n ++ [y] := by
    have hlt : n < l.length := by omega
    rw [List.take_succ_eq_append_getElem hlt]
    rw [List.getElem?_eq_getElem hlt] at hy
    injection hy with hy
    rw [hy]
  rw [h1]
  by_cases e : i = n
  · subst e
    rw [hx] at hy; injection hy with hy; subst hy
    rw [List.take_set_of_le (Nat.le_refl _)]
    exact (List.perm_append_comm (l₁ := l.take i) (l₂ := [x]))
  · have hin : i < n := by omega
    rw [List.take_set]
    generalize hP : l.take n = P
    have hPx : P[i]? = some x := by rw [← hP, List.getElem?_take, if_pos hin]; exact hx
    have hlt := (List.getElem?_eq_some_iff.1 hPx).1
    have hsp : P = P.take i ++ x :: P.drop (i + 1) := by
      have := (List.getElem?_eq_some_iff.1 hPx).2
      rw [← this, ← List.drop_eq_getElem_cons hlt, List.take_append_drop]
    have hset : P.set i y = P.take i ++ y :: P.drop (i + 1) := by
      rw [List.set_eq_take_append_cons_drop, if_pos hlt]
    rw [hset]
    conv => lhs; rw [hsp]
    have := (List.perm_middle (a := x) (l₁ := P.take i) (l₂ := P.drop (i + 1) ++ [y]))
    simp only [List.append_assoc, List.cons_append]
    refine this.trans (List.Perm.cons x ?_)
    exact List.Perm.append_left _ (List.perm_append_comm (l₁ := P.drop (i + 1)) (l₂ := [y]))

def Cov (m : List Int) (l c : List Nat) : Prop := (∀ x ∈ c, x ∈ l ∨ fls m x) ∧ ∀ x ∈ l, x ∈ c
theorem Cov.ext {m m' : List Int} {l c : List Nat} (h : Cov m l c) (e : Ext m m') : Cov m' l c := ⟨fun x hx => (h.1 x hx).imp id e.fls, h.2⟩

/-- The problem: its clauses of the numbers ids stand for the clauses C that are not satisfied yet. -/
structure PAbs (C : List (List Nat)) (T : Nat → Prop) (Bot : Prop) (m : List Int) (us : List Nat) (ids : List Nat) (L : Nat → List Nat) : Prop where
  cl : ∀ k ∈ ids, ClOk (L k) ∧ 2 ≤ (L k).length ∧ Rules T Bot (L k)
  nod : ids.Nodup
  sound : ∀ l, l < 16 → tru m l → T l
  utru : ∀ u ∈ us, u < 16 ∧ tru m u
  mval : ∀ v ∈ m, v = 0 ∨ v = 1 ∨ v = -1
  mlen : m.length = 8
  cov : ∀ c ∈ C, SatC m c ∨ ∃ k ∈ ids, Cov m (L k) c
  bnd : us.length + m.count 0 ≤ 100

/-- While a clause l0 is looked through: l is its list now, nl literals count, j are seen. -/
structure Jr (m : List Int) (l0 l : List Nat) (nl j : Nat) : Prop where
  len : l.length = l0.length
  nle : nl ≤ l.length
  jle : j ≤ nl
  old : ∀ x ∈ l0, x ∈ l.take nl ∨ fls m x
  new : ∀ x ∈ l.take nl, x ∈ l0
  ok : ClOk (l.take nl)
  opn : ∀ j', j' < j → ∀ x, l[j']? = some x → lv m x = 0

theorem Jr.start {m : List Int} {l : List Nat} (h : ClOk l) : Jr m l l l.length 0 :=
  ⟨rfl, Nat.le_refl _, Nat.zero_le _, fun x hx => .inl (by simpa using hx), fun x hx => by simpa using hx, by simpa using h, fun _ h => absurd h (by omega)⟩

theorem Jr.next {m : List Int} {l0 l : List Nat} {nl j x : Nat} (h : Jr m l0 l nl j) (hj : j < nl) (hx : l[j]? = some x) (h0 : lv m x = 0) : Jr m l0 l nl (j + 1) :=
  ⟨h.len, h.nle, by omega, h.old, h.new, h.ok, fun j' hj' y hy => by
    by_cases e : j' = j
    · subst e; rw [hx] at hy; injection hy with hy; rw [← hy]; exact h0
    · exact h.opn j' (by omega) y hy⟩

theorem Jr.drop {m : List Int} {l0 l : List Nat} {nl j x y : Nat} (h : Jr m l0 l nl j) (hj : j < nl) (hx : l[j]? = some x) (hy : l[nl - 1]? = some y) (hf : fls m x) : Jr m l0 (l.set j y) (nl - 1) j := by
  have p := rem_perm hj h.nle hx hy
  refine ⟨by simpa using h.len, by have := h.nle; simp; omega, by omega, ?_, ?_, ?_, ?_⟩
  · intro z hz
    rcases h.old z hz with h1 | h1
    · rcases List.mem_cons.1 (p.mem_iff.1 h1) with e | e
      · exact .inr (e ▸ hf)
      · exact .inl e
    · exact .inr h1
  · intro z hz
    exact h.new z (p.mem_iff.2 (List.mem_cons_of_mem _ hz))
  · have := h.ok.perm p.symm
    refine ⟨fun z hz => this.rng z (List.mem_cons_of_mem _ hz), ?_⟩
    have := this.dv
    simp only [List.map_cons, List.nodup_cons] at this
    exact this.2
  · intro j' hj' z hz
    rw [List.getElem?_set_ne (by omega)] at hz
    exact h.opn j' hj' z hz

/-- Two literals among those that count are of different variables. -/
theorem Jr.two {m : List Int} {l0 l : List Nat} {nl j i k x y : Nat} (h : Jr m l0 l nl j) (hi : i < nl) (hk : k < nl) (hne : i ≠ k) (hx : l[i]? = some x) (hy : l[k]? = some y) : x / 2 ≠ y / 2 :=
  h.ok.idx (i := i) (j := k) (by rw [List.getElem?_take, if_pos hi]; exact hx) (by rw [List.getElem?_take, if_pos hk]; exact hy) hne
theorem Jr.mem {m : List Int} {l0 l : List Nat} {nl j i x : Nat} (h : Jr m l0 l nl j) (hi : i < nl) (hx : l[i]? = some x) : x ∈ l0 ∧ x < 16 :=
  have hm : x ∈ l.take nl := List.mem_of_getElem? (i := i) (by rw [List.getElem?_take, if_pos hi]; exact hx)
  ⟨h.new x hm, h.ok.rng x hm⟩

section
variable {C : List (List Nat)} {T : Nat → Prop} {Bot : Prop} {m : List Int} {us : List Nat} {ids ids' : List Nat} {L L' : Nat → List Nat}

/-- The clause is satisfied: it is dropped. -/
theorem PAbs.drop (h : PAbs C T Bot m us ids L) {k : Nat} (hs : SatC m (L k)) (p : ids.Perm (k :: ids')) (hL : ∀ k', k' ≠ k → L' k' = L k') : PAbs C T Bot m us ids' L' := by
  have hnd := p.nodup_iff.1 h.nod
  rw [List.nodup_cons] at hnd
  have hk : ∀ k' ∈ ids', L' k' = L k' := fun k' hk' => hL k' (fun e => hnd.1 (e ▸ hk'))
  have hin : ∀ k' ∈ ids', k' ∈ ids := fun k' hk' => p.mem_iff.2 (List.mem_cons_of_mem _ hk')
  refine ⟨fun k' hk' => by rw [hk k' hk']; exact h.cl k' (hin k' hk'), hnd.2, h.sound, h.utru, h.mval, h.mlen, fun c hc => ?_, h.bnd⟩
  rcases h.cov c hc with h1 | ⟨k', hk', hcov⟩
  · exact .inl h1
  · rcases List.mem_cons.1 (p.mem_iff.1 hk') with e | e
    · subst e
      obtain ⟨x, hx, ht⟩ := hs
      exact .inl ⟨x, hcov.2 x hx, ht⟩
    · exact .inr ⟨k', e, by rw [hk k' e]; exact hcov⟩

theorem PAbs.fls_neg (h : PAbs C T Bot m us ids L) {x : Nat} (hx : x < 16) (hf : fls m x) : T (neg x) := h.sound _ (neg_lt hx) (fls_iff.1 hf)

/-- No literal is left: a conflict. -/
theorem PAbs.empty (h : PAbs C T Bot m us ids L) {k j : Nat} {l : List Nat} (hk : k ∈ ids) (hj : Jr m (L k) l 0 j) : Bot := by
  obtain ⟨h1, _, h3⟩ := h.cl k hk
  refine h3.none fun y hy => h.fls_neg (h1.rng y hy) ?_
  rcases hj.old y hy with h4 | h4
  · simp at h4
  · exact h4

/-- One is left: it is forced. -/
theorem PAbs.one (h : PAbs C T Bot m us ids L) {k j x : Nat} {l : List Nat} (hk : k ∈ ids) (hj : Jr m (L k) l 1 j) (hx : l[0]? = some x) : T x := by
  obtain ⟨h1, _, h3⟩ := h.cl k hk
  refine h3.one x (hj.mem (by omega) hx).1 fun y hy hne => h.fls_neg (h1.rng y hy) ?_
  rcases hj.old y hy with h4 | h4
  · have : l.take 1 = [x] := by
      cases l with
      | nil => simp at hx
      | cons a r => simp at hx; simp [hx]
    rw [this] at h4
    exact absurd (List.mem_singleton.1 h4) hne
  · exact h4

theorem sgn_one (l : Nat) : sgn l 1 = 0 ∨ sgn l 1 = 1 ∨ sgn l 1 = -1 := by unfold sgn; split <;> omega

/-- It is bound, and the clause dropped. -/
theorem PAbs.unit (h : PAbs C T Bot m us ids L) {k j x : Nat} {l : List Nat} (hk : k ∈ ids) (hj : Jr m (L k) l 1 j) (hx : l[0]? = some x) (h0 : lv m x = 0) (p : ids.Perm (k :: ids')) (hL : ∀ k', k' ≠ k → L' k' = L k') :
    PAbs C T Bot (setm m x 1) (us ++ [x]) ids' L' := by
  have hxm := hj.mem (by omega) hx
  have he := ext_setm (v := 1) h.mlen hxm.2 h0
  have hT := h.one hk hj hx
  have hs : SatC (setm m x 1) (L k) := ⟨x, hxm.1, by unfold tru; rw [lv_setm_same h.mlen hxm.2]; omega⟩
  have h1 : PAbs C T Bot (setm m x 1) (us ++ [x]) ids L := by
    refine ⟨h.cl, h.nod, ?_, ?_, ?_, by rw [setm_length]; exact h.mlen, fun c hc => (h.cov c hc).imp (·.ext he) fun ⟨k, hk, hc⟩ => ⟨k, hk, hc.ext he⟩, ?_⟩
    · intro l hl ht
      rcases setm_cases h.mlen hxm.2 (v := 1) l with ⟨e, _⟩ | ⟨_, e⟩ | ⟨_, e⟩
      · rw [e]; exact hT
      · unfold tru at ht; omega
      · exact h.sound l hl (by unfold tru at *; omega)
    · intro u hu
      rcases List.mem_append.1 hu with hu | hu
      · exact ⟨(h.utru u hu).1, he _ (h.utru u hu).2⟩
      · rw [List.mem_singleton.1 hu]
        exact ⟨hxm.2, by unfold tru; rw [lv_setm_same h.mlen hxm.2]; omega⟩
    · intro v hv
      rcases List.mem_or_eq_of_mem_set hv with hv | hv
      · exact h.mval v hv
      · rw [hv]; exact sgn_one x
    · have := count_setm (v := 1) h.mlen hxm.2 h0 (by omega)
      have := h.bnd
      simp only [List.length_append, List.length_singleton]
      omega
  exact h1.drop hs p hL

/-- Two and more are left: the clause is cut. -/
theorem PAbs.keep (h : PAbs C T Bot m us ids L) {k nl : Nat} {l : List Nat} (hk : k ∈ ids) (hj : Jr m (L k) l nl nl) (h2 : 2 ≤ nl) : PAbs C T Bot m us ids (upd L k (l.take nl)) := by
  obtain ⟨h1, _, h3⟩ := h.cl k hk
  refine ⟨fun k' hk' => ?_, h.nod, h.sound, h.utru, h.mval, h.mlen, fun c hc => ?_, h.bnd⟩
  · by_cases e : k' = k
    · subst e
      rw [upd_same]
      refine ⟨hj.ok, by have := hj.nle; simp; omega, fun x hx hy => h3.one x (hj.new x hx) fun y hy' hne => ?_, fun hy => h3.none fun y hy' => ?_⟩
      · rcases hj.old y hy' with h4 | h4
        · exact hy y h4 hne
        · exact h.fls_neg (h1.rng y hy') h4
      · rcases hj.old y hy' with h4 | h4
        · exact hy y h4
        · exact h.fls_neg (h1.rng y hy') h4
    · rw [upd_other _ _ e]; exact h.cl k' hk'
  · rcases h.cov c hc with h4 | ⟨k', hk', hcov⟩
    · exact .inl h4
    · refine .inr ⟨k', hk', ?_⟩
      by_cases e : k' = k
      · subst e
        rw [upd_same]
        refine ⟨fun x hx => ?_, fun x hx => hcov.2 x (hj.new x hx)⟩
        rcases hcov.1 x hx with h5 | h5
        · exact hj.old x h5
        · exact .inr h5
      · rw [upd_other _ _ e]; exact hcov

theorem Jr.opens {m : List Int} {l0 l : List Nat} {nl : Nat} (h : Jr m l0 l nl nl) : ∀ x ∈ l.take nl, lv m x = 0 := by
  intro x hx
  obtain ⟨i, hi⟩ := List.getElem?_of_mem hx
  rw [List.getElem?_take] at hi
  split at hi
  · exact h.opn i (by assumption) x hi
  · cases hi
end
end Go.Proofs.Ytiimddkopiknpaa
