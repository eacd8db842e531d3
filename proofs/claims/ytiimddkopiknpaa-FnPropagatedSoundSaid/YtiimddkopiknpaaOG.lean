/- A region that draws its order, where several operations that act are not ordered among themselves: each is shown by itself, from a condition on what is done, to keep it. -/
import Derived.Test.YtiimddkopiknpaaPlan
namespace Go.Proofs.Ytiimddkopiknpaa

section
variable {P : Program} {ops : Array Oper} {Q : Exit → Act → World → Prop} {md : Region.Mode} {S : World → Prop}

def updO (σ : Nat → Option Value) (i : Nat) (v : Value) : Nat → Option Value := fun j => if j = i then some v else σ j

/-- The act while the operations are carried out: what is done has its value; all else is as at the start. -/
structure Agr (ops : Array Oper) (a0 : Act) (σ : Nat → Option Value) (a : Act) : Prop where
  dfr : a.defers = a0.defers
  size : a.tmps.size = a0.tmps.size
  old : ∀ t : Nat, (∀ (i : Nat) (o : Oper) (v : Value), σ i = some v → ops[i]? = some o → o.dst ≠ some t) → a.tmps[t]? = a0.tmps[t]?
  new : ∀ (i : Nat) (o : Oper) (v : Value) (t : Nat), σ i = some v → ops[i]? = some o → o.dst = some t → t < a0.tmps.size → a.tmps[t]? = some v

theorem Agr.start (ops : Array Oper) (a : Act) : Agr ops a (fun _ => none) a := ⟨rfl, rfl, fun _ _ => rfl, fun _ _ _ _ h => by cases h⟩

theorem Agr.put {a0 a : Act} {σ : Nat → Option Value} {i : Nat} {o : Oper} {v : Value} (h : Agr ops a0 σ a) (ho : ops[i]? = some o)
    (hd : ∀ (j : Nat) (oj : Oper) (t : Nat), j ≠ i → (σ j).isSome = true → ops[j]? = some oj → o.dst = some t → oj.dst ≠ some t) : Agr ops a0 (updO σ i v) (a.put o.dst v) := by
  cases hdst : o.dst with
  | none =>
    refine ⟨h.dfr, h.size, fun t ht => ?_, fun j oj v' t hj hoj hjt hlt => ?_⟩
    · refine h.old t fun j oj v' hj hoj => ?_
      by_cases e : j = i
      · subst e; rw [ho] at hoj; injection hoj with hoj; subst hoj; rw [hdst]; simp
      · exact ht j oj v' (by simp [updO, e, hj]) hoj
    · by_cases e : j = i
      · subst e; rw [ho] at hoj; injection hoj with hoj; subst hoj; rw [hdst] at hjt; cases hjt
      · exact h.new j oj v' t (by simpa [updO, e] using hj) hoj hjt hlt
  | some t0 =>
    refine ⟨h.dfr, by simpa [Act.put] using h.size, fun t ht => ?_, fun j oj v' t hj hoj hjt hlt => ?_⟩
    · have hne : t0 ≠ t := fun e => ht i o v (by simp [updO]) ho (by rw [hdst, e])
      have : (a.put (some t0) v).tmps[t]? = a.tmps[t]? := by simp [Act.put, Array.getElem?_setIfInBounds_ne hne]
      rw [this]
      refine h.old t fun j oj v' hj hoj => ?_
      by_cases e : j = i
      · subst e; rw [ho] at hoj; injection hoj with hoj; subst hoj; rw [hdst]; intro hh; injection hh with hh; exact hne hh
      · exact ht j oj v' (by simp [updO, e, hj]) hoj
    · by_cases e : j = i
      · subst e
        rw [ho] at hoj; injection hoj with hoj; subst hoj
        rw [hdst] at hjt; injection hjt with hjt; subst hjt
        have hv : v = v' := by simpa [updO] using hj
        subst hv
        have hlt' : t0 < a.tmps.size := by rw [h.size]; exact hlt
        simp [Act.put, hlt']
      · have hj' : σ j = some v' := by simpa [updO, e] using hj
        have hne : t0 ≠ t := fun e2 => hd j oj t0 e (by rw [hj']; rfl) hoj hdst (by rw [hjt, e2])
        have : (a.put (some t0) v).tmps[t]? = a.tmps[t]? := by simp [Act.put, Array.getElem?_setIfInBounds_ne hne]
        rw [this]
        exact h.new j oj v' t hj' hoj hjt hlt

/-- Each operation waits for earlier ones alone. -/
def fwdB (ops : Array Oper) : Bool := (List.range ops.size).all fun i => ((ops[i]?).map fun o => o.after.all fun e => decide (e.on < i)).getD true
theorem fwdB_spec (h : fwdB ops = true) {i : Nat} {o : Oper} (ho : ops[i]? = some o) {e : _} (he : e ∈ o.after) : e.on < i := by
  have hlt := (Array.getElem?_eq_some_iff.1 ho).1
  have h1 := List.all_eq_true.1 h i (List.mem_range.2 hlt)
  rw [ho] at h1
  simp only [Option.map_some, Option.getD_some] at h1
  have h2 := (Array.all_eq_true_iff_forall_mem.1 h1) e he
  simpa using h2
/-- The operations of the head that are left over have different slots. -/
def dstB (ops : Array Oper) (n : Nat) (listed : Array Bool) : Bool :=
  (List.range n).all fun i => listed.getD i false || (List.range n).all fun j => listed.getD j false || decide (i = j) || ((ops[i]?).bind (·.dst)).isNone || decide (((ops[i]?).bind (·.dst)) ≠ ((ops[j]?).bind (·.dst)))
theorem dstB_spec {n : Nat} {listed : Array Bool} (h : dstB ops n listed = true) {i j : Nat} (hi : i < n) (hj : j < n) (li : listed.getD i false = false) (lj : listed.getD j false = false) (hne : j ≠ i) {oi oj : Oper} (ho : ops[i]? = some oi) (ho' : ops[j]? = some oj) {t : Nat} (ht : oi.dst = some t) : oj.dst ≠ some t := by
  have h1 := List.all_eq_true.1 h i (List.mem_range.2 hi)
  rw [li, Bool.false_or] at h1
  have h2 := List.all_eq_true.1 h1 j (List.mem_range.2 hj)
  have hne' : i ≠ j := Ne.symm hne
  simp only [lj, ho, ho', Option.bind_some, ht, Bool.false_or, hne', decide_false, Option.isNone_some, decide_eq_true_eq] at h2
  exact fun e => h2 e.symm

/-- All of the head is listed. -/
def allB (ops : Array Oper) (n : Nat) : Array Bool := Array.ofFn fun j : Fin ops.size => decide (j.val < n)

/-- What is to be shown of each operation that is left over. -/
def Steps (P : Program) (md : Region.Mode) (ops : Array Oper) (Q : Exit → Act → World → Prop) (n : Nat) (listed0 : Array Bool) (a0 : Act) (J : (Nat → Option Value) → World → Prop) : Prop :=
  ∀ (i : Nat) (o : Oper) (σ : Nat → Option Value) (a : Act) (w : World), i < n → listed0.getD i false = false → ops[i]? = some o → σ i = none → J σ w → Agr ops a0 σ a →
    (∀ e ∈ o.after, Region.binds md e = true → listed0.getD e.on false = true ∨ (σ e.on).isSome = true) → wpOp P ops Q i (fun a' w' => ∃ v, a' = a.put o.dst v ∧ J (updO σ i v) w') a w

theorem wpAnyT_inv {n : Nat} {listed0 : Array Bool} {a0 : Act} {J : (Nat → Option Value) → World → Prop} {L : Array Bool → Act → World → Prop} (hn : n ≤ ops.size) (hT : tailB md ops n = true) (hF : fwdB ops = true) (hD : dstB ops n listed0 = true) (hJS : ∀ σ w, J σ w → S w)
    (hstep : Steps P md ops Q n listed0 a0 J)
    (hend : ∀ σ a w, J σ w → Agr ops a0 σ a → (∀ i, i < n → listed0.getD i false = false → (σ i).isSome = true) → L (allB ops n) a w) :
    ∀ (f : Nat) (listed : Array Bool) (a : Act) (w : World) (σ : Nat → Option Value), listed.size = ops.size → ((List.range n).filter fun j => !listed.getD j false).length = f →
      (∀ j, j < n → (listed.getD j false = true ↔ (listed0.getD j false = true ∨ (σ j).isSome = true))) → (∀ j, n ≤ j → listed.getD j false = false) → (∀ j, (σ j).isSome = true → j < n ∧ listed0.getD j false = false) →
      Agr ops a0 σ a → J σ w → wpAnyT P md ops Q S n L f listed a w := by
  intro f
  induction f with
  | zero =>
    intro listed a w σ hsz hcnt hl hge hs hA hJ
    have hall : ∀ j, j < n → listed.getD j false = true := fun j hj => by
      have h1 := List.eq_nil_of_length_eq_zero hcnt
      have h2 : j ∉ (List.range n).filter fun j => !listed.getD j false := by rw [h1]; simp
      rw [List.mem_filter, List.mem_range] at h2
      cases hb : listed.getD j false with
      | true => rfl
      | false => exact absurd ⟨hj, by simp [hb]⟩ h2
    have hle : listed = allB ops n := by
      apply Array.ext
      · simp [allB, hsz]
      · intro j h1 h2
        have hg : listed.getD j false = listed[j] := by simp [Array.getD, h1]
        simp only [allB, Array.getElem_ofFn]
        rw [← hg]
        by_cases hj : j < n
        · rw [hall j hj]; simp [hj]
        · rw [hge j (by omega)]; simp [hj]
    show L listed a w
    rw [hle]
    refine hend σ a w hJ hA fun i hi h0 => ?_
    rcases (hl i hi).1 (hall i hi) with h | h
    · rw [h0] at h; cases h
    · exact h
  | succ f ih =>
    intro listed a w σ hsz hcnt hl hge hs hA hJ
    -- the least one that is not listed
    have hex : ∃ j, j < n ∧ listed.getD j false = false ∧ ∀ k, k < j → listed.getD k false = true := by
      have hne : ∃ j, j < n ∧ listed.getD j false = false := by
        cases hl0 : (List.range n).filter fun j => !listed.getD j false with
        | nil => rw [hl0] at hcnt; simp at hcnt
        | cons j r =>
          have : j ∈ (List.range n).filter fun j => !listed.getD j false := by rw [hl0]; simp
          rw [List.mem_filter, List.mem_range] at this
          exact ⟨j, this.1, by simpa using this.2⟩
      obtain ⟨j, hj, hjf⟩ := hne
      induction j using Nat.strongRecOn with
      | ind j ihj =>
        by_cases hk : ∃ k, k < j ∧ listed.getD k false = false
        · obtain ⟨k, hk, hkf⟩ := hk
          exact ihj k hk (by omega) hkf
        · refine ⟨j, hj, hjf, fun k hkj => ?_⟩
          cases hb : listed.getD k false with
          | true => rfl
          | false => exact absurd ⟨k, hkj, hb⟩ hk
    obtain ⟨m, hm, hmf, hmin⟩ := hex
    have hmo : ∃ o, ops[m]? = some o := ⟨_, Array.getElem?_eq_getElem (by omega)⟩
    obtain ⟨om, hom⟩ := hmo
    have hrm : m ∈ Region.ready md ops listed := mem_ready.2 ⟨getD_in (by omega) hmf, om, hom, fun e he _ => hmin _ (fwdB_spec hF hom he)⟩
    refine ⟨fun h => (by rw [h] at hrm; cases hrm), fun i hi => ?_⟩
    have hin : i < n := by
      rcases Nat.lt_or_ge i n with h | h
      · exact h
      · have := tail_wait hT h hm hi
        rw [hmf] at this; cases this
    refine ⟨hin, ?_⟩
    obtain ⟨hiu, oi, hoi, hall⟩ := mem_ready.1 hi
    have hif := getD_both hiu
    have h0f : listed0.getD i false = false := by
      cases hb : listed0.getD i false with
      | false => rfl
      | true => rw [(hl i hin).2 (.inl hb)] at hif; cases hif
    have hσ : σ i = none := by
      cases hb : σ i with
      | none => rfl
      | some v => rw [(hl i hin).2 (.inr (by rw [hb]; rfl))] at hif; cases hif
    refine wpOp_mono ?_ (hstep i oi σ a w hin h0f hoi hσ hJ hA (fun e he hb => by
      have h1 := hall e he hb
      have h2 := fwdB_spec hF hoi he
      exact (hl e.on (by omega)).1 h1))
    rintro a' w' ⟨v, rfl, hJ'⟩
    refine ⟨hJS _ _ hJ', ih (listed.setIfInBounds i true) _ w' (updO σ i v) (by simpa using hsz) ?_ ?_ ?_ ?_ (hA.put hoi ?_) hJ'⟩
    · have hp : ((List.range n).filter fun j => !listed.getD j false).Perm (i :: (List.range n).filter fun j => !(listed.setIfInBounds i true).getD j false) := by
        rw [List.perm_ext_iff_of_nodup (List.nodup_range.filter _)]
        · intro j
          simp only [List.mem_filter, List.mem_range, List.mem_cons]
          by_cases e : j = i
          · subst e; simp only [hin, true_and, true_or, iff_true]; rw [hif]; rfl
          · rw [getD_set_ne false (Ne.symm e)]
            simp [e]
        · rw [List.nodup_cons]
          refine ⟨fun h => ?_, List.nodup_range.filter _⟩
          rw [List.mem_filter] at h
          have : i < listed.size := by omega
          simp [this] at h
      have := hp.length_eq
      rw [hcnt] at this
      simpa using this.symm
    · intro j hj
      by_cases e : j = i
      · subst e
        have : j < listed.size := by omega
        simp [this, updO]
      · rw [getD_set_ne false (Ne.symm e), hl j hj]
        simp [updO, e]
    · intro j hj
      rw [getD_set_ne false (by omega)]
      exact hge j hj
    · intro j hj
      by_cases e : j = i
      · subst e; exact ⟨hin, h0f⟩
      · exact hs j (by simpa [updO, e] using hj)
    · intro j oj t hne hjs hoj ht
      obtain ⟨hjn, hj0⟩ := hs j hjs
      exact dstB_spec hD hin hjn h0f hj0 hne hoi hoj ht

def planGB (md : Region.Mode) (ops : Array Oper) (n : Nat) : List (Nat × Bool) → Array Bool → Bool
  | [], _ => true
  | (k, false) :: r, listed => decide (k < n) && (Region.ready md ops listed).contains k && Region.free md ops listed k && planGB md ops n r (listed.setIfInBounds k true)
  | (k, true) :: r, listed => decide (k < n) && decide (Region.ready md ops listed = [k]) && planGB md ops n r (listed.setIfInBounds k true)
def planEnd : List (Nat × Bool) → Array Bool → Array Bool
  | [], listed => listed
  | (k, _) :: r, listed => planEnd r (listed.setIfInBounds k true)

theorem wpAnyT_planG {n f2 : Nat} {L : Array Bool → Act → World → Prop} (hs : Region.noSelect ops = true) (hT : tailB md ops n = true) (hdone : ∀ listed a w, L listed a w → ∀ j ∈ Region.ready md ops listed, n ≤ j) :
    ∀ (plan : List (Nat × Bool)) (listed : Array Bool) (a : Act) (w : World), planGB md ops n plan listed = true → S w → wpPlan P ops Q S (fun a w => wpAnyT P md ops Q S n L f2 (planEnd plan listed) a w) plan a w →
      wpAnyT P md ops Q S n L (plan.length + f2) listed a w
  | [], listed, a, w, _, _, h => by rw [List.length_nil, Nat.zero_add]; exact h
  | (k, false) :: r, listed, a, w, hB, hS, h => by
    simp only [planGB, Bool.and_eq_true, decide_eq_true_eq] at hB
    obtain ⟨⟨⟨hkn, hr⟩, hf⟩, hB'⟩ := hB
    obtain ⟨o, v, ho, hy, hQ, h'⟩ := h
    rw [List.length_cons, show r.length + 1 + f2 = (r.length + f2) + 1 by omega]
    exact wpAnyT_first ho (Region.noSelect_spec hs) hQ hT hkn hdone (r.length + f2) listed a w (Region.free_spec ho hf) (by simpa using hr) hy hS
      (wpAnyT_planG hs hT hdone r _ _ _ hB' hS h')
  | (k, true) :: r, listed, a, w, hB, hS, h => by
    simp only [planGB, Bool.and_eq_true, decide_eq_true_eq] at hB
    obtain ⟨⟨hkn, hr⟩, hB'⟩ := hB
    rw [List.length_cons, show r.length + 1 + f2 = (r.length + f2) + 1 by omega]
    refine ⟨by rw [hr]; simp, fun i hi => ?_⟩
    rw [hr] at hi
    have : i = k := by simpa using hi
    subst this
    exact ⟨hkn, wpOp_mono (fun a' w' h' => ⟨h'.1, wpAnyT_planG hs hT hdone r _ a' w' hB' h'.1 h'.2⟩) h⟩

/-- The first operations by a plan; the rest of the head in whatever order. -/
def groupOk (md : Region.Mode) (ops : Array Oper) (n : Nat) (plan : List (Nat × Bool)) : Bool :=
  Region.noSelect ops && decide (n ≤ ops.size) && tailB md ops n && fwdB ops && planGB md ops n plan (Array.replicate ops.size false) &&
  dstB ops n (planEnd plan (Array.replicate ops.size false)) && Region.seqB md ops (ops.size - n) n (allB ops n) &&
  decide (((List.range n).filter fun j => !(planEnd plan (Array.replicate ops.size false)).getD j false).length + plan.length = n)

theorem planEnd_size : ∀ (plan : List (Nat × Bool)) (listed : Array Bool), (planEnd plan listed).size = listed.size
  | [], _ => rfl
  | (_, _) :: r, listed => by rw [planEnd, planEnd_size r]; simp
theorem planEnd_ge {md : Region.Mode} {ops : Array Oper} {n : Nat} : ∀ (plan : List (Nat × Bool)) (listed : Array Bool), planGB md ops n plan listed = true → ∀ j, n ≤ j → (planEnd plan listed).getD j false = listed.getD j false
  | [], _, _, _, _ => rfl
  | (k, false) :: r, listed, h, j, hj => by
    simp only [planGB, Bool.and_eq_true, decide_eq_true_eq] at h
    rw [planEnd, planEnd_ge r _ h.2 j hj, getD_set_ne false (by omega)]
  | (k, true) :: r, listed, h, j, hj => by
    simp only [planGB, Bool.and_eq_true, decide_eq_true_eq] at h
    rw [planEnd, planEnd_ge r _ h.2 j hj, getD_set_ne false (by omega)]

/-- What is to be shown of the rest of the head, from the act a0 and the world w0. -/
def Group (P : Program) (ops : Array Oper) (Q : Exit → Act → World → Prop) (S : World → Prop) (n : Nat) (listed0 : Array Bool) (l : List Oper) (a0 : Act) (w0 : World) : Prop :=
  ∃ J : (Nat → Option Value) → World → Prop, (∀ σ w, J σ w → S w) ∧ J (fun _ => none) w0 ∧ Steps P .any ops Q n listed0 a0 J ∧
    ∀ σ a w, J σ w → Agr ops a0 σ a → (∀ i, i < n → listed0.getD i false = false → (σ i).isSome = true) → wpList P ops Q l a w

theorem wp_region_group {id : Nat} {l : List Oper} {a : Act} {w : World} (S : World → Prop) (n : Nat) (plan : List (Nat × Bool)) (hm : P.follows .mixedOrders = true) (hB : groupOk .any l.toArray n plan = true) (hS : S w.drew)
    (h : wpPlan P l.toArray Q S (fun a w => Group P l.toArray Q S n (planEnd plan (Array.replicate l.toArray.size false)) (l.drop n) a w) plan a w.drew) : (Code.region id l.toArray true).wp P Q a w := by
  simp only [groupOk, Bool.and_eq_true, decide_eq_true_eq] at hB
  obtain ⟨⟨⟨⟨⟨⟨⟨hsel, hn⟩, hT⟩, hF⟩, hP⟩, hD⟩, hseq⟩, hlen⟩ := hB
  refine wp_region_any hm ?_
  have hmono : ∀ a' w', Group P l.toArray Q S n (planEnd plan (Array.replicate l.toArray.size false)) (l.drop n) a' w' →
      wpAnyT P .any l.toArray Q S n (fun listed a w => listed = allB l.toArray n ∧ wpList P l.toArray Q (l.drop n) a w) ((List.range n).filter fun j => !(planEnd plan (Array.replicate l.toArray.size false)).getD j false).length (planEnd plan (Array.replicate l.toArray.size false)) a' w' := by
    rintro a' w' ⟨J, hJS, hJ0, hst, hend⟩
    refine wpAnyT_inv hn hT hF hD hJS hst (fun σ a w hJ hA hall => ⟨rfl, hend σ a w hJ hA hall⟩) _ _ _ _ (fun _ => none) ?_ rfl ?_ ?_ (by simp) (Agr.start _ _) hJ0
    · rw [planEnd_size]; simp
    · intro j _; simp
    · intro j hj
      rw [planEnd_ge plan _ hP j hj, getD_replicate_false]
  have hdone : ∀ (listed : Array Bool) (a : Act) (w : World), (listed = allB l.toArray n ∧ wpList P l.toArray Q (l.drop n) a w) → ∀ j ∈ Region.ready .any l.toArray listed, n ≤ j := by
    rintro listed a w ⟨rfl, _⟩
    exact seqB_ready hseq
  have hplan : ∀ (pl : List (Nat × Bool)) (a : Act) (w : World), wpPlan P l.toArray Q S (fun a w => Group P l.toArray Q S n (planEnd plan (Array.replicate l.toArray.size false)) (l.drop n) a w) pl a w →
      wpPlan P l.toArray Q S (fun a w => wpAnyT P .any l.toArray Q S n (fun listed a w => listed = allB l.toArray n ∧ wpList P l.toArray Q (l.drop n) a w) ((List.range n).filter fun j => !(planEnd plan (Array.replicate l.toArray.size false)).getD j false).length (planEnd plan (Array.replicate l.toArray.size false)) a w) pl a w := by
    intro pl
    induction pl with
    | nil => exact fun a w h => hmono a w h
    | cons x r ih =>
      obtain ⟨k, b⟩ := x
      cases b with
      | false =>
        rintro a w ⟨o, v, h1, h2, h3, h4⟩
        exact ⟨o, v, h1, h2, h3, ih _ _ h4⟩
      | true => exact fun a w h => wpOp_mono (fun a' w' h' => ⟨h'.1, ih _ _ h'.2⟩) h
  have H := wpAnyT_planG hsel hT hdone plan _ a w.drew hP hS (hplan plan a w.drew h)
  have hdl : (l.drop n).length = l.toArray.size - n := by simp
  have := wpAny_of_T (Q := Q) (g := l.toArray.size - n) (fun listed a' w' hL => by
    obtain ⟨rfl, hL⟩ := hL
    have := wpAny_of_seq (md := .any) (Q' := Q) (l.drop n) n (allB l.toArray n) a' w' (fun j => by simp [List.getElem?_drop]) (by rw [hdl]; exact hseq) hL
    rwa [hdl] at this) _ _ _ _ H
  rwa [show plan.length + ((List.range n).filter fun j => !(planEnd plan (Array.replicate l.toArray.size false)).getD j false).length + (l.toArray.size - n) = l.toArray.size by omega] at this
end
end Go.Proofs.Ytiimddkopiknpaa
