/- A region that draws its order, walked by a plan: what only reads (under a condition S on the world) may be taken first; what acts comes alone; a tail that waits for all the rest is walked in the order of the text. -/
import Derived.OrdersHeld
import Derived.StillTail
import Derived.WalkKit
namespace Go.Proofs.Ytiimddkopiknpaa

section
variable {P : Program} {ops : Array Oper} {Q : Exit → Act → World → Prop} {md : Region.Mode} {S : World → Prop}

/-- Each operation of the tail waits for each of the head. -/
def tailB (md : Region.Mode) (ops : Array Oper) (n : Nat) : Bool :=
  (List.range ops.size).all fun t => decide (t < n) || (List.range n).all fun j => Region.waitsFor md ops t j

theorem tail_wait {n : Nat} (h : tailB md ops n = true) {listed : Array Bool} {t j : Nat} (ht : n ≤ t) (hj : j < n) (hr : t ∈ Region.ready md ops listed) : listed.getD j false = true := by
  obtain ⟨_, ot, hot, hall⟩ := mem_ready.1 hr
  have htl : t < ops.size := (Array.getElem?_eq_some_iff.1 hot).1
  have h1 := List.all_eq_true.1 h t (List.mem_range.2 htl)
  simp only [Bool.or_eq_true, decide_eq_true_eq] at h1
  rcases h1 with h1 | h1
  · omega
  · have h2 := List.all_eq_true.1 h1 j (List.mem_range.2 hj)
    obtain ⟨o', ho', e, he, hb, hon⟩ := Region.waitsFor_spec h2
    have : o' = ot := Option.some.inj (ho'.symm.trans hot)
    subst this
    have := hall e he hb
    rwa [hon] at this

/-- Whatever order is picked among the operations of the head; S holds behind each. -/
def wpAnyT (P : Program) (md : Region.Mode) (ops : Array Oper) (Q : Exit → Act → World → Prop) (S : World → Prop) (n : Nat) (L : Array Bool → Act → World → Prop) : Nat → Array Bool → Act → World → Prop
  | 0, listed, a, w => L listed a w
  | f + 1, listed, a, w =>
    Region.ready md ops listed ≠ [] ∧ ∀ i ∈ Region.ready md ops listed, i < n ∧ wpOp P ops Q i (fun a' w' => S w' ∧ wpAnyT P md ops Q S n L f (listed.setIfInBounds i true) a' w') a w

theorem wpAny_of_T {n g : Nat} {L : Array Bool → Act → World → Prop} (hL : ∀ listed a w, L listed a w → wpAny P md ops Q g listed a w) :
    ∀ (f : Nat) (listed : Array Bool) (a : Act) (w : World), wpAnyT P md ops Q S n L f listed a w → wpAny P md ops Q (f + g) listed a w
  | 0, listed, a, w, h => by rw [Nat.zero_add]; exact hL _ _ _ h
  | f + 1, listed, a, w, h => by
    rw [show f + 1 + g = (f + g) + 1 by omega]
    exact ⟨fun h0 => absurd h0 h.1, fun i hi => wpOp_mono (fun a' w' h' => wpAny_of_T hL f _ a' w' h'.2) (h.2 i hi).2⟩

theorem getD_false_of_true {listed : Array Bool} {i : Nat} (h : listed.getD i true = false) : listed.getD i false = false := getD_both h

theorem wpAnyT_first {n i : Nat} {oi : Oper} {v : Value} {L : Array Bool → Act → World → Prop} (hi : ops[i]? = some oi) (hsel : ∀ (j : Nat) (o : Oper) cs b, ops[j]? = some o → o.op ≠ .select cs b)
    (hQ : ∀ c a w, Q (.panic c) (a.put oi.dst v) w → Q (.panic c) a w) (hT : tailB md ops n = true) (hin : i < n) (hdone : ∀ listed a w, L listed a w → ∀ j ∈ Region.ready md ops listed, n ≤ j) :
    ∀ (f : Nat) (listed : Array Bool) (a : Act) (w : World),
      (∀ j oj, ops[j]? = some oj → j ≠ i → listed.getD j true = false → (∀ e ∈ oj.after, Region.binds md e = true → e.on ≠ i) → oi.apart ops oj = true) →
      i ∈ Region.ready md ops listed → YieldsIf P ops S oi v a → S w →
      wpAnyT P md ops Q S n L f (listed.setIfInBounds i true) (a.put oi.dst v) w → wpAnyT P md ops Q S n L (f + 1) listed a w := by
  have hno : ∀ {listed : Array Bool} {j : Nat}, i ∈ Region.ready md ops listed → j ∈ Region.ready md ops listed → j < n := by
    intro listed j hr hj
    rcases Nat.lt_or_ge j n with h | h
    · exact h
    · have h1 := tail_wait hT h hin hj
      rw [getD_both (mem_ready.1 hr).1] at h1
      cases h1
  intro f
  induction f with
  | zero =>
    intro listed a w _ hr hy hS H
    refine ⟨fun h => (by rw [h] at hr; cases hr), fun j hj => ⟨hno hr hj, ?_⟩⟩
    by_cases hji : j = i
    · subst hji; exact hy.wpOp hi hS ⟨hS, H⟩
    · have h1 := hdone _ _ _ H j (ready_mono hj hji)
      have := hno hr hj
      omega
  | succ f ih =>
    intro listed a w hfree hr hy hS H
    refine ⟨fun h => (by rw [h] at hr; cases hr), fun j hj => ⟨hno hr hj, ?_⟩⟩
    by_cases hji : j = i
    · subst hji; exact hy.wpOp hi hS ⟨hS, H⟩
    · have h1 := (H.2 j (ready_mono hj hji)).2
      obtain ⟨hjun, oj, hoj, hall⟩ := mem_ready.1 hj
      have hnot : ∀ e ∈ oj.after, Region.binds md e = true → e.on ≠ i := fun e he hb heq => by
        have h1 := hall e he hb
        rw [heq, getD_both (mem_ready.1 hr).1] at h1
        cases h1
      have h2 := wpOp_putIf hoj (hfree j oj hoj hji hjun hnot) (fun cs b => hsel i oi cs b hi) (fun cs b => hsel j oj cs b hoj) hQ hy h1
      have hfree' : ∀ k ok, ops[k]? = some ok → k ≠ i → (listed.setIfInBounds j true).getD k true = false →
          (∀ e ∈ ok.after, Region.binds md e = true → e.on ≠ i) → oi.apart ops ok = true := fun k ok hk hki hun hno => by
        refine hfree k ok hk hki ?_ hno
        by_cases hjk : j = k
        · subst hjk; exact hjun
        · rw [getD_set_ne true hjk] at hun; exact hun
      refine wpOp_mono (fun a' w' h3 => ⟨h3.2.1, ih (listed.setIfInBounds j true) a' w' hfree' (ready_mono hr (Ne.symm hji)) h3.1 h3.2.1 ?_⟩) h2
      rw [Array.setIfInBounds_comm _ _ hji]
      exact h3.2.2

/-- The plan: which operation comes next; 'false': it only reads and is taken first; 'true': it acts. -/
def wpPlan (P : Program) (ops : Array Oper) (Q : Exit → Act → World → Prop) (S : World → Prop) (N : Act → World → Prop) : List (Nat × Bool) → Act → World → Prop
  | [], a, w => N a w
  | (k, false) :: r, a, w => ∃ o v, ops[k]? = some o ∧ YieldsIf P ops S o v a ∧ (∀ c a w, Q (.panic c) (a.put o.dst v) w → Q (.panic c) a w) ∧ wpPlan P ops Q S N r (a.put o.dst v) w
  | (k, true) :: r, a, w => wpOp P ops Q k (fun a' w' => S w' ∧ wpPlan P ops Q S N r a' w') a w

def planB (md : Region.Mode) (ops : Array Oper) (n : Nat) : List (Nat × Bool) → Array Bool → Bool
  | [], listed => Region.seqB md ops (ops.size - n) n listed
  | (k, false) :: r, listed => decide (k < n) && (Region.ready md ops listed).contains k && Region.free md ops listed k && planB md ops n r (listed.setIfInBounds k true)
  | (k, true) :: r, listed => decide (k < n) && decide (Region.ready md ops listed = [k]) && planB md ops n r (listed.setIfInBounds k true)

theorem wpAnyT_plan {n : Nat} {N : Act → World → Prop} (hs : Region.noSelect ops = true) (hT : tailB md ops n = true) :
    ∀ (plan : List (Nat × Bool)) (listed : Array Bool) (a : Act) (w : World), planB md ops n plan listed = true → S w → wpPlan P ops Q S N plan a w →
      wpAnyT P md ops Q S n (fun listed' a' w' => Region.seqB md ops (ops.size - n) n listed' = true ∧ N a' w') plan.length listed a w
  | [], listed, a, w, hB, _, h => ⟨hB, h⟩
  | (k, false) :: r, listed, a, w, hB, hS, h => by
    simp only [planB, Bool.and_eq_true, decide_eq_true_eq] at hB
    obtain ⟨⟨⟨hkn, hr⟩, hf⟩, hB'⟩ := hB
    obtain ⟨o, v, ho, hy, hQ, h'⟩ := h
    exact wpAnyT_first ho (Region.noSelect_spec hs) hQ hT hkn (fun listed a w h => seqB_ready h.1) r.length listed a w (Region.free_spec ho hf) (by simpa using hr) hy hS
      (wpAnyT_plan hs hT r _ _ _ hB' hS h')
  | (k, true) :: r, listed, a, w, hB, hS, h => by
    simp only [planB, Bool.and_eq_true, decide_eq_true_eq] at hB
    obtain ⟨⟨hkn, hr⟩, hB'⟩ := hB
    refine ⟨by rw [hr]; simp, fun i hi => ?_⟩
    rw [hr] at hi
    have : i = k := by simpa using hi
    subst this
    exact ⟨hkn, wpOp_mono (fun a' w' h' => ⟨h'.1, wpAnyT_plan hs hT r _ a' w' hB' h'.1 h'.2⟩) h⟩

def planOk (md : Region.Mode) (ops : Array Oper) (n : Nat) (plan : List (Nat × Bool)) : Bool :=
  Region.noSelect ops && decide (n ≤ ops.size) && decide (plan.length = n) && tailB md ops n && planB md ops n plan (Array.replicate ops.size false)

/-- **A region that draws its order, by a plan.** -/
theorem wp_region_plan {id : Nat} {l : List Oper} {a : Act} {w : World} (S : World → Prop) (n : Nat) (plan : List (Nat × Bool)) (hm : P.follows .mixedOrders = true) (hB : planOk .any l.toArray n plan = true) (hS : S w.drew)
    (h : wpPlan P l.toArray Q S (fun a' w' => wpList P l.toArray Q (l.drop n) a' w') plan a w.drew) : (Code.region id l.toArray true).wp P Q a w := by
  simp only [planOk, Bool.and_eq_true, decide_eq_true_eq] at hB
  obtain ⟨⟨⟨⟨hsel, hn⟩, hlen⟩, hT⟩, hB'⟩ := hB
  have hdl : (l.drop n).length = l.toArray.size - n := by simp
  have H := wpAnyT_plan (md := .any) hsel hT plan _ a w.drew hB' hS h
  refine wp_region_any hm ?_
  have := wpAny_of_T (Q := Q) (g := l.toArray.size - n) (fun listed a' w' hL => by
    have := wpAny_of_seq (md := .any) (Q' := Q) (l.drop n) n listed a' w' (fun j => by simp [List.getElem?_drop]) (by rw [hdl]; exact hL.1) hL.2
    rwa [hdl] at this) _ _ _ _ H
  rw [hlen, show n + (l.toArray.size - n) = l.toArray.size by omega] at this
  exact this

/-- A step of the plan that only reads. -/
theorem plan_take {N : Act → World → Prop} {k : Nat} {r : List (Nat × Bool)} {o : Oper} {v : Value} {a : Act} {w : World} (ho : ops[k]? = some o) (hy : YieldsIf P ops S o v a) (hQ : ∀ c a w, Q (.panic c) (a.put o.dst v) w → Q (.panic c) a w)
    (h : wpPlan P ops Q S N r (a.put o.dst v) w) : wpPlan P ops Q S N ((k, false) :: r) a w := ⟨o, v, ho, hy, hQ, h⟩
/-- A step of the plan that acts. -/
theorem plan_act {N : Act → World → Prop} {k : Nat} {r : List (Nat × Bool)} {o : Oper} {a : Act} {w : World} (ho : ops[k]? = some o)
    (h : ∀ K : Act → World → Prop, (∀ a' w', S w' → wpPlan P ops Q S N r a' w' → K a' w') → if Region.wanted o (yielded ops a.tmps) = true then o.wp P a w K Q else K (a.put o.dst undef) w) : wpPlan P ops Q S N ((k, true) :: r) a w := by
  have h' := h (fun a' w' => S w' ∧ wpPlan P ops Q S N r a' w') (fun a' w' h1 h2 => ⟨h1, h2⟩)
  show wpOp P ops Q k _ a w
  unfold wpOp
  simp only [ho]
  split
  · rename_i hw; rw [if_pos hw] at h'; exact .inl h'
  · rename_i hw; rw [if_neg hw] at h'; exact h'

/-- The plan in the order of the text: a flag for each operation of the head ('true': it acts); what is left of the list is the tail. -/
def wpLex (P : Program) (ops : Array Oper) (Q : Exit → Act → World → Prop) (S : World → Prop) : List Bool → List Oper → Act → World → Prop
  | [], l, a, w => wpList P ops Q l a w
  | false :: fs, o :: l, a, w => ∃ v, YieldsIf P ops S o v a ∧ (∀ c a w, Q (.panic c) (a.put o.dst v) w → Q (.panic c) a w) ∧ wpLex P ops Q S fs l (a.put o.dst v) w
  | true :: fs, o :: l, a, w => ∀ K : Act → World → Prop, (∀ a' w', S w' → wpLex P ops Q S fs l a' w' → K a' w') → if Region.wanted o (yielded ops a.tmps) = true then o.wp P a w K Q else K (a.put o.dst undef) w
  | _ :: _, [], _, _ => False

def lexPlan : Nat → List Bool → List (Nat × Bool)
  | _, [] => []
  | k, b :: bs => (k, b) :: lexPlan (k + 1) bs

theorem lexPlan_length : ∀ (k : Nat) (fs : List Bool), (lexPlan k fs).length = fs.length
  | _, [] => rfl
  | k, _ :: fs => by simp [lexPlan, lexPlan_length (k + 1) fs]

theorem wpPlan_lex (l0 : List Oper) : ∀ (fs : List Bool) (k : Nat) (l : List Oper) (a : Act) (w : World), (∀ j, l[j]? = l0[k + j]?) → wpLex P l0.toArray Q S fs l a w →
    wpPlan P l0.toArray Q S (fun a' w' => wpList P l0.toArray Q (l0.drop (k + fs.length)) a' w') (lexPlan k fs) a w
  | [], k, l, a, w, hl, h => by
    have : l = l0.drop k := List.ext_getElem? fun j => by rw [hl j, List.getElem?_drop]
    simp only [lexPlan, wpPlan, List.length_nil, Nat.add_zero]
    rw [← this]
    exact h
  | false :: fs, k, o :: l, a, w, hl, h => by
    obtain ⟨v, hy, hQ, h'⟩ := h
    have h0 : l0.toArray[k]? = some o := by simpa using (hl 0).symm
    have ih := wpPlan_lex l0 fs (k + 1) l (a.put o.dst v) w (fun j => by have := hl (j + 1); simpa [Nat.add_assoc, Nat.add_comm 1 j] using this) h'
    rw [show k + 1 + fs.length = k + (false :: fs).length from by simp; omega] at ih
    exact plan_take h0 hy hQ ih
  | true :: fs, k, o :: l, a, w, hl, h => by
    have h0 : l0.toArray[k]? = some o := by simpa using (hl 0).symm
    refine plan_act h0 fun K hK => h K fun a' w' hS h' => hK a' w' hS ?_
    have ih := wpPlan_lex l0 fs (k + 1) l a' w' (fun j => by have := hl (j + 1); simpa [Nat.add_assoc, Nat.add_comm 1 j] using this) h'
    rw [show k + 1 + fs.length = k + (true :: fs).length from by simp; omega] at ih
    exact ih
  | false :: _, _, [], _, _, _, h => h.elim
  | true :: _, _, [], _, _, _, h => h.elim

/-- **A region that draws its order, in the order of the text.** -/
theorem wp_region_lex {id : Nat} {l : List Oper} {a : Act} {w : World} (S : World → Prop) (fs : List Bool) (hm : P.follows .mixedOrders = true) (hB : planOk .any l.toArray fs.length (lexPlan 0 fs) = true) (hS : S w.drew)
    (h : wpLex P l.toArray Q S fs l a w.drew) : (Code.region id l.toArray true).wp P Q a w := by
  refine wp_region_plan S fs.length (lexPlan 0 fs) hm hB hS ?_
  have := wpPlan_lex l fs 0 l a w.drew (fun j => by simp) h
  simpa using this

theorem lex_take {fs : List Bool} {l : List Oper} {o : Oper} {v : Value} {a : Act} {w : World} (hy : YieldsIf P ops S o v a) (hQ : ∀ c a w, Q (.panic c) (a.put o.dst v) w → Q (.panic c) a w)
    (h : wpLex P ops Q S fs l (a.put o.dst v) w) : wpLex P ops Q S (false :: fs) (o :: l) a w := ⟨v, hy, hQ, h⟩
theorem lex_act {fs : List Bool} {l : List Oper} {o : Oper} {a : Act} {w : World}
    (h : ∀ K : Act → World → Prop, (∀ a' w', S w' → wpLex P ops Q S fs l a' w' → K a' w') → if Region.wanted o (yielded ops a.tmps) = true then o.wp P a w K Q else K (a.put o.dst undef) w) : wpLex P ops Q S (true :: fs) (o :: l) a w := h
theorem lex_tail {l : List Oper} {a : Act} {w : World} (h : wpList P ops Q l a w) : wpLex P ops Q S [] l a w := h
end
end Go.Proofs.Ytiimddkopiknpaa
