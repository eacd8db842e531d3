/- The plain law: what unit propagation forces; two assignments that are closed under it and sound are the same. No program in it. -/
import Derived.Test.YtiimddkopiknpaaLawB
namespace Go.Proofs.Ytiimddkopiknpaa

/-- What clauses and decisions force. -/
inductive Der (cs : List (List Int)) (ds : List Int) : Nat → Prop
  | dec {d : Int} : d ∈ ds → Der cs ds (enc d)
  | unit {c : List Int} {x : Int} : c ∈ cs → x ∈ c → (∀ y ∈ c.map enc, y ≠ enc x → Der cs ds (neg y)) → Der cs ds (enc x)

def DerBot (cs : List (List Int)) (ds : List Int) : Prop := (∃ c ∈ cs, ∀ y ∈ c.map enc, Der cs ds (neg y)) ∨ ∃ l, Der cs ds l ∧ Der cs ds (neg l)

theorem der_rules {cs : List (List Int)} {ds : List Int} : ∀ c ∈ cs, Rules (Der cs ds) (DerBot cs ds) (c.map enc) := fun c hc =>
  ⟨fun x hx h => by
    obtain ⟨y, hy, rfl⟩ := List.mem_map.1 hx
    exact .unit hc hy h, fun h => .inl ⟨c, hc, h⟩⟩
theorem der_bot {cs : List (List Int)} {ds : List Int} : ∀ l, l < 16 → Der cs ds l → Der cs ds (neg l) → DerBot cs ds := fun l _ h1 h2 => .inr ⟨l, h1, h2⟩

/-- An assignment that is closed. -/
structure Cls (cs : List (List Int)) (ds : List Int) (tr : Nat → Prop) : Prop where
  cons : ∀ l, tr l → ¬ tr (neg l)
  dec : ∀ d ∈ ds, tr (enc d)
  clo : ∀ c ∈ cs, (∃ x ∈ c, tr (enc x)) ∨ ∃ x ∈ c, ∃ y ∈ c, enc x ≠ enc y ∧ ¬ tr (neg (enc x)) ∧ ¬ tr (neg (enc y))

section
variable {cs : List (List Int)} {ds : List Int} {tr : Nat → Prop}
theorem Cls.der (h : Cls cs ds tr) {l : Nat} (hd : Der cs ds l) : tr l := by
  induction hd with
  | dec hd => exact h.dec _ hd
  | @unit c x hc hx _ ih =>
    rcases h.clo c hc with ⟨z, hz, ht⟩ | ⟨y1, h1, y2, h2, hne, n1, n2⟩
    · by_cases e : enc z = enc x
      · rw [← e]; exact ht
      · exact absurd (ih _ (List.mem_map_of_mem hz) e) (h.cons _ ht)
    · by_cases e : enc y1 = enc x
      · exact absurd (ih _ (List.mem_map_of_mem h2) (fun e2 => hne (by rw [e, e2]))) n2
      · exact absurd (ih _ (List.mem_map_of_mem h1) e) n1
theorem Cls.noBot (h : Cls cs ds tr) : ¬ DerBot cs ds := by
  rintro (⟨c, hc, ha⟩ | ⟨l, h1, h2⟩)
  · rcases h.clo c hc with ⟨z, hz, ht⟩ | ⟨y1, h1, y2, h2, hne, n1, n2⟩
    · exact h.cons _ ht (h.der (ha _ (List.mem_map_of_mem hz)))
    · exact n1 (h.der (ha _ (List.mem_map_of_mem h1)))
  · exact h.cons _ (h.der h1) (h.der h2)
end

/-- The solver's model. -/
theorem cls_model {cs : List (List Int)} {ds : List Int} {m : List Int} (hd : ∀ d ∈ ds, tru m (enc d)) (hc : ∀ c ∈ cs.map (·.map enc), Clo m c) : Cls cs ds (tru m) := by
  refine ⟨fun l h1 h2 => ?_, hd, fun c hm => ?_⟩
  · unfold tru at *; rw [lv_neg] at h2; omega
  · rcases hc _ (List.mem_map_of_mem hm) with ⟨x, hx, ht⟩ | ⟨x, hx, y, hy, hne, h1, h2⟩
    · obtain ⟨z, hz, rfl⟩ := List.mem_map.1 hx
      exact .inl ⟨z, hz, ht⟩
    · obtain ⟨a, ha, rfl⟩ := List.mem_map.1 hx
      obtain ⟨b, hb, rfl⟩ := List.mem_map.1 hy
      exact .inr ⟨a, ha, b, hb, hne, fun h => h1 (fls_iff.2 h), fun h => h2 (fls_iff.2 h)⟩

/-- The specification's. -/
def str (s : List Int) (l : Nat) : Prop := sgn l (s.getD (l / 2 + 1) 0) = 1
theorem slit_enc {s : List Int} {x : Int} (hx : LitOk x) : slit s x = sgn (enc x) (s.getD (enc x / 2 + 1) 0) := by
  have h1 := enc_div hx
  have h2 : enc x / 2 + 1 = x.natAbs := by have := hx.1; omega
  rw [h2]
  unfold slit sgn
  by_cases h : x < 0
  · have : enc x % 2 = 1 := by unfold enc LitOk at *; rw [if_pos h]; omega
    rw [if_pos h, if_neg (by omega)]
  · have : enc x % 2 = 0 := by unfold enc LitOk at *; rw [if_neg h]; omega
    rw [if_neg h, if_pos this]
theorem str_enc {s : List Int} {x : Int} (hx : LitOk x) : str s (enc x) ↔ slit s x = 1 := by rw [slit_enc hx]; rfl
theorem str_neg {s : List Int} {l : Nat} : str s (neg l) ↔ sgn l (s.getD (l / 2 + 1) 0) = -1 := by
  unfold str
  rw [neg_var, sgn_neg]
  omega
theorem cls_stand {cs : List (List Int)} {ds : List Int} {s : List Int} (hok : ∀ c ∈ cs, ClsOk c) (hds : ∀ d ∈ ds, LitOk d) (hd : ∀ d ∈ ds, slit s d = 1) (hc : ∀ c ∈ cs, CloS s c) : Cls cs ds (str s) := by
  refine ⟨fun l h1 h2 => ?_, fun d h => (str_enc (hds d h)).2 (hd d h), fun c hm => ?_⟩
  · rw [str_neg] at h2
    unfold str at h1
    omega
  · rcases hc c hm with ⟨x, hx, ht⟩ | ⟨x, hx, y, hy, hne, h1, h2⟩
    · exact .inl ⟨x, hx, (str_enc ((hok c hm).rng x hx)).2 ht⟩
    · have hx' := (hok c hm).rng x hx
      have hy' := (hok c hm).rng y hy
      rw [slit_enc hx'] at h1
      rw [slit_enc hy'] at h2
      exact .inr ⟨x, hx, y, hy, fun e => hne (enc_inj hx' hy' e), fun h => by rw [str_neg] at h; omega, fun h => by rw [str_neg] at h; omega⟩

theorem enc_pos (i : Nat) : enc ((i : Int) + 1) = 2 * i := by unfold enc; rw [if_neg (by omega)]; omega
theorem enc_min (i : Nat) : enc (-(i : Int) - 1) = 2 * i + 1 := by unfold enc; rw [if_pos (by omega)]; omega

theorem str_der {cs : List (List Int)} {ds : List Int} {N : Nat} {s : List Int} (hN : N ≤ 8) (ha : SAbs N (Der cs ds) s) (hc : Cls cs ds (str s)) {l : Nat} : str s l ↔ Der cs ds l := by
  refine ⟨fun h => ?_, fun h => hc.der h⟩
  by_cases hl : l / 2 + 1 ≤ N
  · by_cases hp : l % 2 = 0
    · have e : l = enc (((l / 2 : Nat) : Int) + 1) := by rw [enc_pos]; omega
      have hlo : LitOk (((l / 2 : Nat) : Int) + 1) := by unfold LitOk; omega
      rw [e] at h ⊢
      exact ha.sound _ hlo (by omega) ((str_enc hlo).1 h)
    · have e : l = enc (-((l / 2 : Nat) : Int) - 1) := by rw [enc_min]; omega
      have hlo : LitOk (-((l / 2 : Nat) : Int) - 1) := by unfold LitOk; omega
      rw [e] at h ⊢
      exact ha.sound _ hlo (by omega) ((str_enc hlo).1 h)
  · unfold str at h
    have : s.getD (l / 2 + 1) 0 = 0 := by
      rw [List.getD_eq_getElem?_getD, List.getElem?_eq_none (by rw [ha.len]; omega)]
      rfl
    rw [this] at h
    unfold sgn at h
    split at h <;> omega

theorem out_eq {cs : List (List Int)} {ds : List Int} {N : Nat} {s m : List Int} (hN : N ≤ 8) (ha : SAbs N (Der cs ds) s) (hc : Cls cs ds (str s)) (hs : ∀ l, l < 16 → tru m l → Der cs ds l) (hm : Cls cs ds (tru m)) : outTo m 8 = sOut s (N + 1) := by
  have hval : ∀ k, s.getD k 0 = 0 ∨ s.getD k 0 = 1 ∨ s.getD k 0 = -1 := fun k => by
    rw [List.getD_eq_getElem?_getD]
    by_cases e : k < s.length
    · rw [List.getElem?_eq_getElem e, Option.getD_some]; exact ha.val _ (List.getElem_mem _)
    · rw [List.getElem?_eq_none (by omega)]; exact .inl rfl
  have hlit : ∀ l, l < 16 → (tru m l ↔ str s l) := fun l hl => by
    rw [str_der hN ha hc]
    exact ⟨hs l hl, fun h => hm.der h⟩
  have hone : ∀ i, i < 8 → lit1 i (m.getD i 0) = if s.getD (i + 1) 0 = 0 then [] else [((i + 1 : Nat) : Int) * s.getD (i + 1) 0] := fun i hi => by
    have h1 := hlit (2 * i) (by omega)
    have h2 := hlit (2 * i + 1) (by omega)
    unfold tru lv str sgn at h1 h2
    rw [if_pos (by omega), if_pos (by omega), show 2 * i / 2 = i from by omega] at h1
    rw [if_neg (by omega), if_neg (by omega), show (2 * i + 1) / 2 = i from by omega] at h2
    unfold lit1
    rcases hval (i + 1) with e | e | e
    · rw [e] at h1 h2
      rw [e, if_pos rfl, if_neg (by rw [h1]; omega), if_neg (by
        intro h
        have := h2.1 (by omega)
        omega)]
    · rw [e] at h1
      rw [e, if_pos (h1.2 rfl), if_neg (by omega)]
      simp
    · rw [e] at h2
      have h3 := h2.2 (by omega)
      rw [e, if_neg (by omega), if_pos (by omega), if_neg (by omega)]
      congr 1
      omega
  have hall : ∀ i, i ≤ 8 → outTo m i = sOut s (i + 1) := fun i => by
    induction i with
    | zero =>
      intro _
      have := ha.zero
      simp only [outTo, sOut]
      rw [if_pos this]
      rfl
    | succ i ih =>
      intro hi
      have e1 : outTo m (i + 1) = outTo m i ++ lit1 i (m.getD i 0) := rfl
      have e2 : sOut s (i + 1 + 1) = sOut s (i + 1) ++ if s.getD (i + 1) 0 = 0 then [] else [((i + 1 : Nat) : Int) * s.getD (i + 1) 0] := rfl
      rw [e1, e2, ih (by omega), hone i (by omega)]
  have htail : ∀ k, sOut s (N + 1 + k) = sOut s (N + 1) := fun k => by
    induction k with
    | zero => rfl
    | succ k ih =>
      have e2 : sOut s (N + 1 + (k + 1)) = sOut s (N + 1 + k) ++ if s.getD (N + 1 + k) 0 = 0 then [] else [((N + 1 + k : Nat) : Int) * s.getD (N + 1 + k) 0] := rfl
      have : s.getD (N + 1 + k) 0 = 0 := by
        rw [List.getD_eq_getElem?_getD, List.getElem?_eq_none (by rw [ha.len]; omega)]
        rfl
      rw [e2, if_pos this, ih, List.append_nil]
  rw [hall 8 (Nat.le_refl _), show 8 + 1 = N + 1 + (8 - N) from by omega]
  exact htail _

theorem cls_len {c : List Int} (hd : (c.map Int.natAbs).Nodup) (hl : ∀ x ∈ c, LitOk x) : c.length ≤ 8 := by
  have h1 : (c.map Int.natAbs).length ≤ ((List.range 8).map (· + 1)).length := hd.length_le_of_subset fun x hx => by
    obtain ⟨y, hy, rfl⟩ := List.mem_map.1 hx
    have := hl y hy
    unfold LitOk at this
    exact List.mem_map.2 ⟨y.natAbs - 1, List.mem_range.2 (by omega), by omega⟩
  simpa using h1
end Go.Proofs.Ytiimddkopiknpaa
