/- What initWatcherList starts from, and the lists of watchers that it builds. -/
import Derived.Test.YtiimddkopiknpaaOG
import Derived.Test.YtiimddkopiknpaaWat
import Derived.Test.YtiimddkopiknpaaCopy
import Derived.Test.YtiimddkopiknpaaParA
namespace Go.Proofs.Ytiimddkopiknpaa
open Go.RowKit

/-- copy, ahead of what is left of a region. -/
theorem wpList_copy_size {P : Program} {ops : Array Oper} {rest : List Oper} {o : Oper} {a : Act} {w : World} {Q : Exit → Act → World → Prop} (hgd : o.guard = none) (d s : Operand) (dT sT : TypeId)
    (ho : o.op = .call { callee := .builtin .copy, args := #[d, s], argTypes := #[dT, sT] }) (elem : TypeId) (i : TypeInfo) (hu : P.underlying dT = some (.slice elem)) (hi : P.info? elem = some i)
    (g off dLen dCap : Nat) (cur : Array Value) (t : TypeId) (hd : a.eval d = .slice (some ⟨g, off, none⟩) dLen dCap) (hg : w.heap[g]? = some (.cells cur t (0, 0))) (sp : Option Addr) (sLen sCap : Nat) (hs : a.eval s = .slice sp sLen sCap) (cs : List Value)
    (hn : cs.length = Nat.min sLen dLen * i.size) (hsrc : sp = none → cs = []) (hsrc' : ∀ a, sp = some a → ∀ j v, cs[j]? = some v → w.cell? (a.add j) = some v)
    (hfit : off + cs.length ≤ cur.size) (h1 : ∀ v ∈ cs, v.oneCell' = true)
    (h : wpList P ops Q rest (a.put o.dst (goInt (Nat.min sLen dLen))) (w.setRow g (cur.toList.take off ++ cs ++ cur.toList.drop (off + cs.length)).toArray)) :
    wpList P ops Q (o :: rest) a w := by
  refine wpList_plain hgd fun K hK' => ?_
  have hrun := run_copy_size (P := P) w dT sT o.type elem i hu hi g off dLen dCap cur t hg sp sLen sCap cs hn hsrc hsrc' hfit h1
  unfold Oper.wp execOp
  simp only [ho, resolve, invoke, builtin, Sem.run_bind, Sem.run_pure, Result.andThen_ok, List.map_toArray, List.map_cons, List.map_nil, hs, hd, hrun]
  exact hK' _ _ h

/-- The solver's memory ahead of its lists of watchers. -/
structure Pre (Λ : Lay) (w : World) (C : List Value) (m : List Int) (tr : List Nat) (tv : Value) (L : Nat → List Nat) : Prop where
  solver : Row w Λ.s 78 C
  c4 : C[4]? = some (.int .i64 8)
  c14 : C[14]? = some tv
  c15 : C[15]? = some (.slice (some ⟨Λ.bm, 0, none⟩) 8 8)
  c20 : C[20]? = some (.slice (some ⟨Λ.br, 0, none⟩) 8 8)
  model : Row w Λ.bm 51 (m.map (Value.int .i64))
  mlen : m.length = 8
  reason : ∃ rs, Row w Λ.br 50 rs ∧ rs.length = 8
  trail : w.ownsRow Λ.Bt 90 1 tv tr.length (tr.map litV)
  db : ∀ k, k < Λ.K → ClauseAt w (Λ.cb k) (Λ.lb k) (L k) 0
  bel : Below Λ.B0 Λ.w0 w
  bt : Λ.Bt ≤ w.heap.size

theorem Pre.grown {Λ : Lay} {w w' : World} {C : List Value} {m : List Int} {tr : List Nat} {tv : Value} {L : Nat → List Nat} (ok : LayOk Λ) (h : Pre Λ w C m tr tv L) (hg : w.grownBy w' none) : Pre Λ w' C m tr tv L :=
  ⟨h.solver.kept hg (by simp), h.c4, h.c14, h.c15, h.c20, h.model.kept hg (by simp), h.mlen, let ⟨rs, r, hl⟩ := h.reason; ⟨rs, r.kept hg (by simp), hl⟩, h.trail.kept hg (by cases tv.ownBlock <;> simp),
    fun k hk => (h.db k hk).kept hg (by simp) (by simp), h.bel.grown hg (Nat.le_trans ok.b0 h.bel.size) (fun _ h => by cases h), Nat.le_trans h.bt hg.size⟩

/-- The lists of watchers that the first K clauses make. -/
def Ews (L : Nat → List Nat) : Nat → Nat → List (Nat × Nat)
  | 0 => fun _ => []
  | k + 1 => addW (if (L k).length = 2 then 16 else 0) ((L k).getD 0 0) ((L k).getD 1 0) k (Ews L k)

/-- Lists of watchers fit the first K clauses. -/
structure WOk (L : Nat → List Nat) (K : Nat) (E : Nat → List (Nat × Nat)) : Prop where
  reg : ∀ y, y < 16 → ∀ e ∈ E y, e.2 < K ∧ 3 ≤ (L e.2).length ∧ e.1 ∈ L e.2 ∧ Wd (L e.2) (neg y)
  nod : ∀ y, y < 16 → ((E y).map Prod.snd).Nodup
  regW : ∀ k, k < K → 3 ≤ (L k).length → ∀ x, Wd (L k) x → ∃ o, (o, k) ∈ E (neg x)
  bin : ∀ y, y < 16 → ∀ e ∈ E (y + 16), e.2 < K ∧ (L e.2 = [neg y, e.1] ∨ L e.2 = [e.1, neg y])
  binW : ∀ k, k < K → (L k).length = 2 → ∀ x, Wd (L k) x → ∃ o, (o, k) ∈ E (neg x + 16)
  lens : ∀ z, (E z).length ≤ 2 * K

theorem Ews_ok (L : Nat → List Nat) : ∀ K : Nat, (∀ k, k < K → ClOk (L k) ∧ 2 ≤ (L k).length) → WOk L K (Ews L K)
  | 0, _ => ⟨fun _ _ e h => by simp [Ews] at h, fun _ _ => by simp [Ews], fun _ h => by omega, fun _ _ e h => by simp [Ews] at h, fun _ h => by omega, fun z => by simp [Ews]⟩
  | K + 1, hc => by
    have ih := Ews_ok L K (fun k hk => hc k (by omega))
    obtain ⟨hok, h2⟩ := hc K (by omega)
    have e0 : (L K)[0]? = some ((L K).getD 0 0) := by rw [List.getD_eq_getElem?_getD, List.getElem?_eq_getElem (by omega)]; rfl
    have e1 : (L K)[1]? = some ((L K).getD 1 0) := by rw [List.getD_eq_getElem?_getD, List.getElem?_eq_getElem (by omega)]; rfl
    show WOk L (K + 1) (addW _ _ _ K (Ews L K))
    generalize (L K).getD 0 0 = f at e0 ⊢
    generalize (L K).getD 1 0 = s at e1 ⊢
    have hf16 := hok.rng _ (List.mem_of_getElem? e0)
    have hs16 := hok.rng _ (List.mem_of_getElem? e1)
    have hnf := neg_lt hf16
    have hns := neg_lt hs16
    have hfs : f ≠ s := fun e => hok.idx e0 e1 (by omega) (by rw [e])
    have hne : neg f ≠ neg s := fun e => hfs (by rw [← neg_neg f, e, neg_neg])
    have hE := addW_eq (d := if (L K).length = 2 then 16 else 0) (k := K) (E := Ews L K) hfs
    have hin : ∀ z e, e ∈ addW (if (L K).length = 2 then 16 else 0) f s K (Ews L K) z ↔ e ∈ Ews L K z ∨ (z = neg f + (if (L K).length = 2 then 16 else 0) ∧ e = (s, K)) ∨ (z = neg s + (if (L K).length = 2 then 16 else 0) ∧ e = (f, K)) := by
      intro z e
      rw [hE z, List.mem_append, List.mem_append, or_assoc]
      refine or_congr Iff.rfl (or_congr ?_ ?_)
      · split <;> simp [*]
      · split <;> simp [*]
    have hw0 : Wd (L K) f := .inl e0
    have hw1 : Wd (L K) s := .inr e1
    have hwx : ∀ x, Wd (L K) x → x = f ∨ x = s := by
      rintro x (h | h)
      · rw [e0] at h; injection h with h; exact .inl h.symm
      · rw [e1] at h; injection h with h; exact .inr h.symm
    by_cases hd : (L K).length = 2
    · rw [if_pos hd] at hin hE ⊢
      have hl : L K = [f, s] := by
        match hLK : L K, hd with
        | [a, b], _ => rw [hLK] at e0 e1; simp at e0 e1; rw [e0, e1]
      refine ⟨fun y hy e he => ?_, fun y hy => ?_, fun k hk h3 x hx => ?_, fun y hy e he => ?_, fun k hk h3 x hx => ?_, fun z => ?_⟩
      · rcases (hin y e).1 he with h | ⟨h, _⟩ | ⟨h, _⟩
        · obtain ⟨a1, a2⟩ := ih.reg y hy e h; exact ⟨by omega, a2⟩
        · omega
        · omega
      · rw [hE y]
        have h1 : ¬ y = neg f + 16 := by omega
        have h2 : ¬ y = neg s + 16 := by omega
        rw [if_neg h1, if_neg h2]
        simpa using ih.nod y hy
      · by_cases e : k = K
        · subst e; omega
        · obtain ⟨o, ho⟩ := ih.regW k (by omega) h3 x hx
          exact ⟨o, (hin _ _).2 (.inl ho)⟩
      · rcases (hin _ e).1 he with h | ⟨h, rfl⟩ | ⟨h, rfl⟩
        · obtain ⟨a1, a2⟩ := ih.bin y hy e h; exact ⟨by omega, a2⟩
        · have : y = neg f := by omega
          subst this
          exact ⟨by simp, .inl (by simp [hl, neg_neg])⟩
        · have : y = neg s := by omega
          subst this
          exact ⟨by simp, .inr (by simp [hl, neg_neg])⟩
      · by_cases e : k = K
        · subst e
          rcases hwx x hx with rfl | rfl
          · exact ⟨s, (hin _ _).2 (.inr (.inl ⟨rfl, rfl⟩))⟩
          · exact ⟨f, (hin _ _).2 (.inr (.inr ⟨rfl, rfl⟩))⟩
        · obtain ⟨o, ho⟩ := ih.binW k (by omega) h3 x hx
          exact ⟨o, (hin _ _).2 (.inl ho)⟩
      · rw [hE z]
        have := ih.lens z
        have a1 : (if z = neg f + 16 then [(s, K)] else []).length ≤ 1 := by split <;> simp
        have a2 : (if z = neg s + 16 then [(f, K)] else []).length ≤ 1 := by split <;> simp
        simp only [List.length_append]
        omega
    · rw [if_neg hd] at hin hE ⊢
      simp only [Nat.add_zero] at hin hE
      refine ⟨fun y hy e he => ?_, fun y hy => ?_, fun k hk h3 x hx => ?_, fun y hy e he => ?_, fun k hk h3 x hx => ?_, fun z => ?_⟩
      · rcases (hin y e).1 he with h | ⟨h, rfl⟩ | ⟨h, rfl⟩
        · obtain ⟨a1, a2⟩ := ih.reg y hy e h; exact ⟨by omega, a2⟩
        · exact ⟨by simp, by simp; omega, List.mem_of_getElem? e1, by rw [h, neg_neg]; exact hw0⟩
        · exact ⟨by simp, by simp; omega, List.mem_of_getElem? e0, by rw [h, neg_neg]; exact hw1⟩
      · rw [hE y]
        have hnK : K ∉ (Ews L K y).map Prod.snd := by
          intro h
          obtain ⟨e, he, h⟩ := List.mem_map.1 h
          have := (ih.reg y hy e he).1
          omega
        by_cases h1 : y = neg f
        · have h2 : ¬ y = neg s := fun e => hne (h1.symm.trans e)
          rw [if_pos h1, if_neg h2]
          simp only [List.append_nil, List.map_append, List.map_cons, List.map_nil]
          rw [List.nodup_append]
          exact ⟨ih.nod y hy, by simp, fun a ha b hb => by rw [List.mem_singleton.1 hb]; exact fun e => hnK (e ▸ ha)⟩
        · rw [if_neg h1]
          by_cases h2 : y = neg s
          · rw [if_pos h2]
            simp only [List.append_nil, List.map_append, List.map_cons, List.map_nil]
            rw [List.nodup_append]
            exact ⟨ih.nod y hy, by simp, fun a ha b hb => by rw [List.mem_singleton.1 hb]; exact fun e => hnK (e ▸ ha)⟩
          · rw [if_neg h2]; simpa using ih.nod y hy
      · by_cases e : k = K
        · subst e
          rcases hwx x hx with rfl | rfl
          · exact ⟨s, (hin _ _).2 (.inr (.inl ⟨rfl, rfl⟩))⟩
          · exact ⟨f, (hin _ _).2 (.inr (.inr ⟨rfl, rfl⟩))⟩
        · obtain ⟨o, ho⟩ := ih.regW k (by omega) h3 x hx
          exact ⟨o, (hin _ _).2 (.inl ho)⟩
      · rcases (hin _ e).1 he with h | ⟨h, _⟩ | ⟨h, _⟩
        · obtain ⟨a1, a2⟩ := ih.bin y hy e h; exact ⟨by omega, a2⟩
        · omega
        · omega
      · by_cases e : k = K
        · subst e; omega
        · obtain ⟨o, ho⟩ := ih.binW k (by omega) h3 x hx
          exact ⟨o, (hin _ _).2 (.inl ho)⟩
      · rw [hE z]
        have := ih.lens z
        have a1 : (if z = neg f then [(s, K)] else []).length ≤ 1 := by split <;> simp
        have a2 : (if z = neg s then [(f, K)] else []).length ≤ 1 := by split <;> simp
        simp only [List.length_append]
        omega

/-- A slice that has been made: sixteen empty lists. -/
def VW (W0 w : World) (e : TypeId) (v : Value) : Prop := ∃ b, v = .slice (some ⟨b, 0, none⟩) 16 16 ∧ W0.heap.size ≤ b ∧ Row w b e (List.replicate 16 (.slice none 0 0))
theorem VW.grown {W0 w w' : World} {e : TypeId} {v : Value} (h : VW W0 w e v) (hg : w.grownBy w' none) : VW W0 w' e v := let ⟨b, a1, a2, a3⟩ := h; ⟨b, a1, a2, a3.kept hg (by simp)⟩

/-- While the solver's lists of watchers are made, in whatever order. -/
structure WJ (W0 : World) (vo : Value) (σ : Nat → Option Value) (w : World) : Prop where
  hg : W0.grownBy w none
  dom : ∀ j, (σ j).isSome = true → j ∈ [7, 13, 19, 25, 27]
  v7 : ∀ v, σ 7 = some v → VW W0 w 108 v
  v13 : ∀ v, σ 13 = some v → VW W0 w 108 v
  v19 : ∀ v, σ 19 = some v → VW W0 w 58 v
  v25 : ∀ v, σ 25 = some v → VW W0 w 58 v
  dif : ∀ v v', σ 7 = some v → σ 13 = some v' → v ≠ v'
  v27 : ∀ v, σ 27 = some v → ∃ a b c d, σ 7 = some a ∧ σ 13 = some b ∧ σ 19 = some c ∧ σ 25 = some d ∧ v = .agg #[.int .i64 2000, .int .i64 1, a, b, c, d, vo, .slice none 0 0]

theorem WJ.start (W0 : World) (vo : Value) : WJ W0 vo (fun _ => none) W0 :=
  ⟨grownBy_refl _ _, by simp, by simp, by simp, by simp, by simp, by simp, by simp⟩

theorem VW.new (W0 w : World) (hg : W0.grownBy w none) (e : TypeId) : VW W0 (w.alloc (.cells (Array.replicate 16 (.slice none 0 0)) e)) e (.slice (some ⟨w.heap.size, 0, none⟩) 16 16) :=
  ⟨_, rfl, hg.size, Row.make w e _ 16⟩

theorem WJ.make {W0 w : World} {vo : Value} {σ : Nat → Option Value} (h : WJ W0 vo σ w) {i : Nat} (hi : i = 7 ∨ i = 13 ∨ i = 19 ∨ i = 25) (hn : σ i = none) (e : TypeId) (he : e = if i = 7 ∨ i = 13 then 108 else 58) :
    WJ W0 vo (updO σ i (.slice (some ⟨w.heap.size, 0, none⟩) 16 16)) (w.alloc (.cells (Array.replicate 16 (.slice none 0 0)) e)) := by
  have hga := World.grownBy_alloc w (.cells (Array.replicate 16 (.slice none 0 0)) e) none
  have hnew := VW.new W0 w h.hg e
  have hold : ∀ v e', VW W0 w e' v → v ≠ .slice (some ⟨w.heap.size, 0, none⟩) 16 16 := by
    rintro v e' ⟨b, rfl, _, r⟩ hh
    injection hh with hh _ _
    injection hh with hh
    injection hh with hh
    have := r.lt
    omega
  have h27 : σ 27 = none := by
    cases h0 : σ 27 with
    | none => rfl
    | some v =>
      obtain ⟨a, b, c, d, h1, h2, h3, h4, _⟩ := h.v27 v h0
      rcases hi with rfl | rfl | rfl | rfl
      · rw [h1] at hn; cases hn
      · rw [h2] at hn; cases hn
      · rw [h3] at hn; cases hn
      · rw [h4] at hn; cases hn
  refine ⟨grownBy_trans h.hg hga, ?_, ?_, ?_, ?_, ?_, ?_, ?_⟩
  · intro j hj
    by_cases ej : j = i
    · subst ej; simp; omega
    · exact h.dom j (by simpa [updO, ej] using hj)
  · intro v hv
    by_cases ej : 7 = i
    · subst ej; simp only [updO, if_true, Option.some.injEq] at hv; subst hv; rw [he] at hnew ⊢; exact hnew
    · exact (h.v7 v (by simpa [updO, ej] using hv)).grown hga
  · intro v hv
    by_cases ej : 13 = i
    · subst ej; simp only [updO, if_true, Option.some.injEq] at hv; subst hv; rw [he] at hnew ⊢; exact hnew
    · exact (h.v13 v (by simpa [updO, ej] using hv)).grown hga
  · intro v hv
    by_cases ej : 19 = i
    · subst ej; simp only [updO, if_true, Option.some.injEq] at hv; subst hv; rw [he] at hnew ⊢; exact hnew
    · exact (h.v19 v (by simpa [updO, ej] using hv)).grown hga
  · intro v hv
    by_cases ej : 25 = i
    · subst ej; simp only [updO, if_true, Option.some.injEq] at hv; subst hv; rw [he] at hnew ⊢; exact hnew
    · exact (h.v25 v (by simpa [updO, ej] using hv)).grown hga
  · intro v v' hv hv'
    by_cases e7 : 7 = i
    · subst e7
      simp only [updO, if_true, Option.some.injEq] at hv
      subst hv
      exact fun e => hold v' 108 (h.v13 v' (by simpa [updO] using hv')) e.symm
    · have hv1 : σ 7 = some v := by simpa [updO, e7] using hv
      by_cases e13 : 13 = i
      · subst e13
        simp only [updO, if_true, Option.some.injEq] at hv'
        subst hv'
        exact hold v 108 (h.v7 v hv1)
      · exact h.dif v v' hv1 (by simpa [updO, e13] using hv')
  · intro v hv
    have : ¬ 27 = i := by omega
    simp [updO, this, h27] at hv

theorem WJ.build {W0 w : World} {vo : Value} {σ : Nat → Option Value} (h : WJ W0 vo σ w) {a b c d : Value} (h7 : σ 7 = some a) (h13 : σ 13 = some b) (h19 : σ 19 = some c) (h25 : σ 25 = some d) :
    WJ W0 vo (updO σ 27 (.agg #[.int .i64 2000, .int .i64 1, a, b, c, d, vo, .slice none 0 0])) w := by
  refine ⟨h.hg, ?_, ?_, ?_, ?_, ?_, ?_, ?_⟩
  · intro j hj
    by_cases ej : j = 27
    · subst ej; simp
    · exact h.dom j (by simpa [updO, ej] using hj)
  · intro v hv; exact h.v7 v (by simpa [updO] using hv)
  · intro v hv; exact h.v13 v (by simpa [updO] using hv)
  · intro v hv; exact h.v19 v (by simpa [updO] using hv)
  · intro v hv; exact h.v25 v (by simpa [updO] using hv)
  · intro v v' hv hv'; exact h.dif v v' (by simpa [updO] using hv) (by simpa [updO] using hv')
  · intro v hv
    simp only [updO, if_true, Option.some.injEq] at hv
    exact ⟨a, b, c, d, by simpa [updO] using h7, by simpa [updO] using h13, by simpa [updO] using h19, by simpa [updO] using h25, hv.symm⟩
theorem Try.info108 : (Try.prog.info? 108).map (fun i => (i.zero, i.size, i.bytes)) = some (some (.slice none 0 0), 1, 24) := by kernel_rfl
theorem Try.info58 : (Try.prog.info? 58).map (fun i => (i.zero, i.size, i.bytes)) = some (some (.slice none 0 0), 1, 24) := by kernel_rfl
theorem plan_nil {P : Program} {ops : Array Oper} {Q : Exit → Act → World → Prop} {S : World → Prop} {N : Act → World → Prop} {a : Act} {w : World} (h : N a w) : wpPlan P ops Q S N [] a w := h
end Go.Proofs.Ytiimddkopiknpaa
