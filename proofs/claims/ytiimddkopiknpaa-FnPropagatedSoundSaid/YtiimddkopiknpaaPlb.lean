/- The plain law of the second statement: what is forced is true under all values under which clauses and decisions hold. No program in it. -/
import Derived.Test.YtiimddkopiknpaaSouD
namespace Go.Proofs.Ytiimddkopiknpaa

def trB (bs : List Bool) (l : Nat) : Prop := (bs.getD (l / 2) false == decide (l % 2 = 0)) = true
theorem tv_enc {bs : List Bool} {x : Int} (hx : LitOk x) : tv bs x = true ↔ trB bs (enc x) := by
  unfold tv trB
  rw [enc_div hx]
  have : decide (enc x % 2 = 0) = decide (0 < x) := by
    rw [Bool.eq_iff_iff, decide_eq_true_iff, decide_eq_true_iff]
    unfold enc LitOk at *
    split <;> omega
  rw [this]

theorem trB_neg {bs : List Bool} {l : Nat} (h : trB bs l) : ¬ trB bs (neg l) := by
  unfold trB at *
  rw [neg_var, neg_mod]
  have : decide (1 - l % 2 = 0) = !decide (l % 2 = 0) := by
    rw [Bool.eq_iff_iff, decide_eq_true_iff, Bool.not_eq_true', decide_eq_false_iff_not]
    omega
  rw [this]
  intro h2
  rw [beq_iff_eq] at h h2
  rw [h] at h2
  cases hd : decide (l % 2 = 0) <;> rw [hd] at h2 <;> cases h2

/-- The constraints of clauses and decisions. -/
def both (cs : List (List Int)) (ds : List Int) : List (List Int) := cs ++ ds.map fun d => [d]

theorem cls_vals {cs : List (List Int)} {ds : List Int} {bs : List Bool} (hok : ∀ c ∈ cs, ClsOk c) (hds : ∀ d ∈ ds, LitOk d) (h : (both cs ds).all (anyT bs) = true) : Cls cs ds (trB bs) := by
  have h' := List.all_eq_true.1 h
  refine ⟨fun l h1 => trB_neg h1, fun d hd => ?_, fun c hc => .inl ?_⟩
  · have h1 := h' [d] (List.mem_append_right _ (List.mem_map.2 ⟨d, hd, rfl⟩))
    unfold anyT at h1
    obtain ⟨x, hx, ht⟩ := List.any_eq_true.1 h1
    rw [List.mem_singleton.1 hx] at ht
    exact (tv_enc (hds d hd)).1 ht
  · have h1 := h' c (List.mem_append_left _ hc)
    unfold anyT at h1
    obtain ⟨x, hx, ht⟩ := List.any_eq_true.1 h1
    exact ⟨x, hx, (tv_enc ((hok c hc).rng x hx)).1 ht⟩

theorem both_ok {cs : List (List Int)} {ds : List Int} (hok : ∀ c ∈ cs, ClsOk c) (hds : ∀ d ∈ ds, LitOk d) : ∀ c ∈ both cs ds, ClsOk c := fun c hc => by
  rcases List.mem_append.1 hc with h | h
  · exact hok c h
  · obtain ⟨d, hd, rfl⟩ := List.mem_map.1 h
    exact ⟨by simp, fun x hx => by rw [List.mem_singleton.1 hx]; exact hds d hd, by simp⟩

theorem mem_lit1 {i : Nat} {b x : Int} : x ∈ lit1 i b ↔ (0 < b ∧ x = (i : Int) + 1) ∨ (b < 0 ∧ x = -(i : Int) - 1) := by
  unfold lit1
  by_cases h : 0 < b
  · rw [if_pos h]; simp; omega
  · rw [if_neg h]
    by_cases h2 : b < 0
    · rw [if_pos h2]; simp; omega
    · rw [if_neg h2]; simp; omega
theorem mem_outTo {m : List Int} {x : Int} (k : Nat) : x ∈ outTo m k ↔ ∃ i, i < k ∧ x ∈ lit1 i (m.getD i 0) := by
  induction k with
  | zero => simp [outTo]
  | succ k ih =>
    simp only [outTo, List.mem_append, ih]
    constructor
    · rintro (⟨i, h1, h2⟩ | h)
      · exact ⟨i, by omega, h2⟩
      · exact ⟨k, by omega, h⟩
    · rintro ⟨i, h1, h2⟩
      by_cases e : i = k
      · subst e; exact .inr h2
      · exact .inl ⟨i, by omega, h2⟩

theorem lv_even (m : List Int) (i : Nat) : lv m (2 * i) = m.getD i 0 := by
  unfold lv sgn
  rw [if_pos (by omega), show 2 * i / 2 = i from by omega]
theorem lv_odd (m : List Int) (i : Nat) : lv m (2 * i + 1) = -(m.getD i 0) := by
  unfold lv sgn
  rw [if_neg (by omega), show (2 * i + 1) / 2 = i from by omega]

theorem got_tru {m : List Int} {x : Int} (h : x ∈ outTo m 8) : LitOk x ∧ tru m (enc x) := by
  obtain ⟨i, hi, hx⟩ := (mem_outTo 8).1 h
  rcases mem_lit1.1 hx with ⟨h1, rfl⟩ | ⟨h1, rfl⟩
  · exact ⟨by unfold LitOk; omega, by unfold tru; rw [enc_pos, lv_even]; exact h1⟩
  · exact ⟨by unfold LitOk; omega, by unfold tru; rw [enc_min, lv_odd]; omega⟩
theorem tru_got {m : List Int} {x : Int} (hx : LitOk x) (h : tru m (enc x)) : x ∈ outTo m 8 := by
  have h0 := hx
  unfold LitOk at h0
  refine (mem_outTo 8).2 ⟨x.natAbs - 1, by omega, mem_lit1.2 ?_⟩
  unfold tru at h
  by_cases hp : 0 < x
  · have e : x = ((x.natAbs - 1 : Nat) : Int) + 1 := by omega
    rw [e, enc_pos, lv_even] at h
    exact .inl ⟨h, e⟩
  · have e : x = -((x.natAbs - 1 : Nat) : Int) - 1 := by omega
    rw [e, enc_min, lv_odd] at h
    exact .inr ⟨by omega, e⟩

theorem got_true {cs : List (List Int)} {ds : List Int} {m : List Int} {bs : List Bool} {x : Int} (hs : ∀ l, l < 16 → tru m l → Der cs ds l) (hc : Cls cs ds (trB bs)) (h : x ∈ outTo m 8) : LitOk x ∧ tv bs x = true :=
  let ⟨h1, h2⟩ := got_tru h
  ⟨h1, (tv_enc h1).2 (hc.der (hs _ (enc_lt h1) h2))⟩

theorem got_len {m : List Int} {ds : List Int} (hnd : (ds.map Int.natAbs).Nodup) (hl : ∀ d ∈ ds, LitOk d) (hd : ∀ d ∈ ds, tru m (enc d)) : ds.length ≤ (outTo m 8).length := by
  have : ds.Nodup := (List.pairwise_map.1 hnd).imp fun h e => h (by rw [e])
  exact this.length_le_of_subset fun d h => tru_got (hl d h) (hd d h)
theorem got_pos {m : List Int} {c : List Int} (hc : ClsOk c) (h1 : c.length ≤ 1) (h : Clo m (c.map enc)) : 0 < (outTo m 8).length := by
  match c, hc, h1, h with
  | [], hc, _, _ => exact absurd rfl hc.ne
  | [x], hc, _, h =>
    have ht : tru m (enc x) := by
      rcases h with ⟨y, hy, ht⟩ | ⟨a, ha, b, hb, hne, _⟩
      · simp at hy; rw [← hy]; exact ht
      · simp at ha hb; exact absurd (ha.trans hb.symm) hne
    exact List.length_pos_of_mem (tru_got (hc.rng x (by simp)) ht)
  | _ :: _ :: _, _, h1, _ => simp at h1
end Go.Proofs.Ytiimddkopiknpaa
