/- The act behind operations in whatever order; steps that make a slice. -/
import Derived.Test.YtiimddkopiknpaaOG
namespace Go.Proofs.Ytiimddkopiknpaa

section
variable {P : Program} {ops : Array Oper} {Q : Exit → Act → World → Prop}

theorem Agr.eval_old {a0 a : Act} {σ : Nat → Option Value} (h : Agr ops a0 σ a) {js : List Nat} (dom : ∀ j, (σ j).isSome = true → j ∈ js) (t : Nat) (hd : js.all (fun j => decide ((ops[j]?).bind (·.dst) ≠ some t)) = true) : a.eval (.tmp t) = a0.eval (.tmp t) := by
  have := h.old t fun i o v hi ho => by
    have h1 := List.all_eq_true.1 hd i (dom i (by rw [hi]; rfl))
    simp only [ho, Option.bind_some, decide_eq_true_eq] at h1
    exact h1
  simp only [Act.eval, Array.getD_eq_getD_getElem?, this]

theorem Agr.eval_new {a0 a : Act} {σ : Nat → Option Value} (h : Agr ops a0 σ a) {i t : Nat} {v : Value} (hi : σ i = some v) (hd : (ops[i]?).bind (·.dst) = some t) (ht : t < a0.tmps.size) : a.eval (.tmp t) = v := by
  cases ho : ops[i]? with
  | none => rw [ho] at hd; cases hd
  | some o =>
    rw [ho] at hd
    have := h.new i o v t hi ho hd ht
    simp only [Act.eval, Array.getD_eq_getD_getElem?, this, Option.getD_some]

theorem Agr.get_old {a0 a : Act} {σ : Nat → Option Value} (h : Agr ops a0 σ a) {js : List Nat} (dom : ∀ j, (σ j).isSome = true → j ∈ js) (t : Nat) {v : Value} (hd : js.all (fun j => decide ((ops[j]?).bind (·.dst) ≠ some t)) = true) (hv : a0.eval (.tmp t) = v) : a.tmps[t]?.getD undef = v := by
  have := h.eval_old dom t hd
  rw [hv] at this
  simpa only [Act.eval, Array.getD_eq_getD_getElem?] using this
theorem Agr.get_new {a0 a : Act} {σ : Nat → Option Value} (h : Agr ops a0 σ a) {i t : Nat} {v : Value} (hi : σ i = some v) (hd : (ops[i]?).bind (·.dst) = some t) (ht : t < a0.tmps.size) : a.tmps[t]?.getD undef = v := by
  have := h.eval_new hi hd ht
  simpa only [Act.eval, Array.getD_eq_getD_getElem?] using this
theorem put_get_ne (a : Act) (x : Option Nat) (v : Value) (t : Nat) (h : x ≠ some t) : (a.put x v).tmps[t]? = a.tmps[t]? := by
  cases x with
  | none => rfl
  | some t0 => simp [Act.put, Array.getElem?_setIfInBounds_ne (fun e => h (by rw [e]) : t0 ≠ t)]
theorem put_get_eq (a : Act) (v : Value) (t : Nat) (h : t < a.tmps.size) : (a.put (some t) v).tmps[t]? = some v := by simp [Act.put, h]
theorem put_size (a : Act) (x : Option Nat) (v : Value) : (a.put x v).tmps.size = a.tmps.size := by cases x <;> simp [Act.put]
theorem put_def (a : Act) (x : Option Nat) (v : Value) : (a.put x v).defers = a.defers := by cases x <;> rfl

/-- The act behind them all. -/
theorem Agr.eq {a0 a : Act} {σ : Nat → Option Value} (h : Agr ops a0 σ a) {js : List Nat} (dom : ∀ j, (σ j).isSome = true → j ∈ js) (all : ∀ j, j ∈ js → (σ j).isSome = true) :
    a = js.foldl (fun b j => b.put ((ops[j]?).bind (·.dst)) ((σ j).getD undef)) a0 := by
  have key : ∀ (r done : List Nat) (b : Act), (∀ j, j ∈ r → j ∈ js) → b.tmps.size = a0.tmps.size → b.defers = a0.defers →
      (∀ t, (∃ j, j ∈ done ∧ (ops[j]?).bind (·.dst) = some t) → b.tmps[t]? = a.tmps[t]?) → (∀ t, (¬ ∃ j, j ∈ done ∧ (ops[j]?).bind (·.dst) = some t) → b.tmps[t]? = a0.tmps[t]?) →
      ∃ b', b' = r.foldl (fun b j => b.put ((ops[j]?).bind (·.dst)) ((σ j).getD undef)) b ∧ b'.tmps.size = a0.tmps.size ∧ b'.defers = a0.defers ∧
      (∀ t, (∃ j, j ∈ done ++ r ∧ (ops[j]?).bind (·.dst) = some t) → b'.tmps[t]? = a.tmps[t]?) ∧ (∀ t, (¬ ∃ j, j ∈ done ++ r ∧ (ops[j]?).bind (·.dst) = some t) → b'.tmps[t]? = a0.tmps[t]?) := by
    intro r
    induction r with
    | nil => exact fun done b _ h1 h2 h3 h4 => ⟨b, rfl, h1, h2, by simpa using h3, by simpa using h4⟩
    | cons j r ih =>
      intro done b hr h1 h2 h3 h4
      have H3 : ∀ t, (∃ k, k ∈ done ++ [j] ∧ (ops[k]?).bind (·.dst) = some t) → (b.put ((ops[j]?).bind (·.dst)) ((σ j).getD undef)).tmps[t]? = a.tmps[t]? := by
        rintro t ⟨k, hk, hkt⟩
        by_cases e : (ops[j]?).bind (·.dst) = some t
        · obtain ⟨v, hv⟩ := Option.isSome_iff_exists.1 (all j (hr j (List.mem_cons_self)))
          cases ho : ops[j]? with
          | none => rw [ho] at e; cases e
          | some o =>
            rw [ho] at e
            by_cases ht : t < a0.tmps.size
            · rw [h.new j o v t hv ho e ht, hv]
              simp only [Option.bind_some] at e ⊢
              rw [e, Option.getD_some, put_get_eq _ _ _ (by rw [h1]; exact ht)]
            · rw [Array.getElem?_eq_none (by rw [put_size, h1]; exact Nat.le_of_not_lt ht), Array.getElem?_eq_none (by rw [h.size]; exact Nat.le_of_not_lt ht)]
        · rw [put_get_ne _ _ _ _ e]
          rcases List.mem_append.1 hk with hk | hk
          · exact h3 t ⟨k, hk, hkt⟩
          · rw [List.mem_singleton.1 hk] at hkt; exact absurd hkt e
      have H4 : ∀ t, (¬ ∃ k, k ∈ done ++ [j] ∧ (ops[k]?).bind (·.dst) = some t) → (b.put ((ops[j]?).bind (·.dst)) ((σ j).getD undef)).tmps[t]? = a0.tmps[t]? := by
        intro t hn
        have e : (ops[j]?).bind (·.dst) ≠ some t := fun e => hn ⟨j, by simp, e⟩
        rw [put_get_ne _ _ _ _ e]
        exact h4 t fun ⟨k, hk, hkt⟩ => hn ⟨k, List.mem_append_left _ hk, hkt⟩
      obtain ⟨b', hb', g⟩ := ih (done ++ [j]) (b.put ((ops[j]?).bind (·.dst)) ((σ j).getD undef)) (fun k hk => hr k (List.mem_cons_of_mem _ hk)) (by rw [put_size]; exact h1) (by rw [put_def]; exact h2) H3 H4
      refine ⟨b', hb', ?_⟩
      simpa [List.append_assoc] using g
  obtain ⟨b', hb', g1, g2, g3, g4⟩ := key js [] a0 (fun _ h => h) rfl rfl (by simp) (by simp)
  rw [← hb']
  have ht : a.tmps = b'.tmps := by
    apply Array.ext_getElem?
    intro t
    by_cases e : ∃ j, j ∈ [] ++ js ∧ (ops[j]?).bind (·.dst) = some t
    · exact (g3 t e).symm
    · rw [g4 t e]
      exact h.old t fun i o v hi ho hd => e ⟨i, by simpa using dom i (by rw [hi]; rfl), by rw [ho]; exact hd⟩
  cases a; cases b'
  simp only at ht g2
  have hd := h.dfr
  simp only at hd
  rw [ht, hd, ← g2]

theorem plan_takeL {S : World → Prop} {N : Act → World → Prop} {l : List Oper} {k : Nat} {r : List (Nat × Bool)} {o : Oper} {v : Value} {a : Act} {w : World} (ho : l[k]? = some o) (hy : YieldsIf P l.toArray S o v a) (hQ : ∀ c a w, Q (.panic c) (a.put o.dst v) w → Q (.panic c) a w)
    (h : wpPlan P l.toArray Q S N r (a.put o.dst v) w) : wpPlan P l.toArray Q S N ((k, false) :: r) a w := plan_take (by simpa using ho) hy hQ h
theorem wpOp_of {i : Nat} {o : Oper} {a : Act} {w : World} {C : Act → World → Prop} (ho : ops[i]? = some o)
    (h : ∀ K : Act → World → Prop, (∀ a' w', C a' w' → K a' w') → if Region.wanted o (yielded ops a.tmps) = true then o.wp P a w K Q else K (a.put o.dst undef) w) : wpOp P ops Q i C a w := by
  have h' := h C (fun _ _ h => h)
  unfold wpOp
  simp only [ho]
  split
  · rename_i hw; rw [if_pos hw] at h'; exact .inl h'
  · rename_i hw; rw [if_neg hw] at h'; exact h'

theorem wpOp_make {i : Nat} {o : Oper} {a : Act} {w : World} {C : Act → World → Prop} (ho : ops[i]? = some o) (hg : o.guard = none) {t : TypeId} {l c : Operand} (hop : o.op = .makeSlice t l c) {vl vc v : Value} {w' : World} (hl : a.eval l = vl) (hc : a.eval c = vc)
    (hmk : (Instr.makeSlice t vl vc).run P w = .ok v w') (hC : C (a.put o.dst v) w') : wpOp P ops Q i C a w := by
  refine wpOp_of ho fun K hK => ?_
  have hw : Region.wanted o (yielded ops a.tmps) = true := by simp [Region.wanted, hg]
  rw [if_pos hw]
  unfold Oper.wp
  simp [execOp, hop, hl, hc, hmk, Result.andThen]
  exact hK _ _ hC
end
end Go.Proofs.Ytiimddkopiknpaa
