/- What parseSlice reads; the state of its first loop. -/
import Derived.Test.YtiimddkopiknpaaSim
import Derived.Deep.OwnRows
namespace Go.Proofs.Ytiimddkopiknpaa
open Go.RowKit

/-- A literal of DIMACS, as the solver holds it. -/
def enc (x : Int) : Nat := if x < 0 then (2 * (-x - 1) + 1).toNat else (2 * (x - 1)).toNat
def LitOk (x : Int) : Prop := x ≠ 0 ∧ -8 ≤ x ∧ x ≤ 8
theorem enc_lt {x : Int} (h : LitOk x) : enc x < 16 := by unfold enc LitOk at *; split <;> omega
theorem enc_div {x : Int} (h : LitOk x) : enc x / 2 = x.natAbs - 1 := by unfold enc LitOk at *; split <;> omega
theorem enc_inj {x y : Int} (hx : LitOk x) (hy : LitOk y) (h : enc x = enc y) : x = y := by unfold enc LitOk at *; split at h <;> split at h <;> omega
theorem enc_neg {x : Int} (h : LitOk x) : neg (enc x) = enc (-x) := by
  unfold neg enc LitOk at *
  split <;> split <;> split <;> omega

/-- A clause as it is given. -/
structure ClsOk (c : List Int) : Prop where
  ne : c ≠ []
  rng : ∀ x ∈ c, LitOk x
  dv : (c.map Int.natAbs).Nodup

theorem ClsOk.cl {c : List Int} (h : ClsOk c) : ClOk (c.map enc) := by
  refine ⟨fun x hx => ?_, ?_⟩
  · obtain ⟨y, hy, rfl⟩ := List.mem_map.1 hx
    exact enc_lt (h.rng y hy)
  · rw [List.map_map]
    have : c.map ((fun x => x / 2) ∘ enc) = (c.map Int.natAbs).map (· - 1) := by
      rw [List.map_map]
      exact List.map_congr_left fun x hx => enc_div (h.rng x hx)
    rw [this]
    refine List.pairwise_map.2 (List.Pairwise.imp_of_mem (fun {a b} ha hb hne hab => hne ?_) h.dv)
    obtain ⟨x, hx, rfl⟩ := List.mem_map.1 ha
    obtain ⟨y, hy, rfl⟩ := List.mem_map.1 hb
    have h1 := (h.rng x hx).1
    have h2 := (h.rng y hy).1
    omega

/-- Clauses in memory, below B. -/
structure CnfAt (w : World) (B g : Nat) (cs : List (List Int)) : Prop where
  lt : g < B
  row : ∀ i c, cs[i]? = some c → ∃ b cp, b < B ∧ w.cell? ⟨g, i, none⟩ = some (.slice (some ⟨b, 0, none⟩) c.length cp) ∧ ∀ j x, c[j]? = some x → w.cell? ⟨b, j, none⟩ = some (.int .i64 x)

theorem below_cell {B : Nat} {w w' : World} (h : Below B w w') {b i : Nat} (hb : b < B) : w'.cell? ⟨b, i, none⟩ = w.cell? ⟨b, i, none⟩ := by
  unfold World.cell?
  rw [h.block b hb]
theorem CnfAt.below {w w' : World} {B g : Nat} {cs : List (List Int)} (h : CnfAt w B g cs) (hb : Below B w w') : CnfAt w' B g cs :=
  ⟨h.lt, fun i c hc => let ⟨b, cp, h1, h2, h3⟩ := h.row i c hc; ⟨b, cp, h1, by rw [below_cell hb h.lt]; exact h2, fun j x hx => by rw [below_cell hb h1]; exact h3 j x hx⟩⟩

/-- The first i clauses are read. -/
structure ParR (Φ : PL) (cs : List (List Int)) (i : Nat) (w : World) (us : List Nat) (uv : Value) (cv : Value) (K : Nat) (cb lb : Nat → Nat) (L : Nat → List Nat) : Prop where
  mem : PMem Φ w 0 us uv (List.range K) cv K cb lb L (.slice none 0 0) []
  hK : K ≤ i
  hu : us.length ≤ i
  all : ∀ c ∈ cs.take i, (∃ x, c = [x] ∧ enc x ∈ us) ∨ ∃ k, k < K ∧ L k = c.map enc
  cls : ∀ k, k < K → ∃ c ∈ cs, 2 ≤ c.length ∧ L k = c.map enc
  uns : ∀ u ∈ us, ∃ x, [x] ∈ cs ∧ u = enc x

section
variable {Φ : PL} {cs : List (List Int)} {i : Nat} {w w' : World} {us : List Nat} {uv cv : Value} {K : Nat} {cb lb : Nat → Nat} {L : Nat → List Nat}
theorem ParR.unit (h : ParR Φ cs i w us uv cv K cb lb L) {x : Int} {uv' : Value} (hi : cs[i]? = some [x]) (hp : PMem Φ w' 0 (us ++ [enc x]) uv' (List.range K) cv K cb lb L (.slice none 0 0) []) : ParR Φ cs (i + 1) w' (us ++ [enc x]) uv' cv K cb lb L := by
  have hlt := (List.getElem?_eq_some_iff.1 hi).1
  refine ⟨hp, by have := h.hK; omega, by have := h.hu; simp; omega, ?_, h.cls, ?_⟩
  · intro c hc
    rw [List.take_succ_eq_append_getElem hlt, (List.getElem?_eq_some_iff.1 hi).2] at hc
    rcases List.mem_append.1 hc with h1 | h1
    · exact (h.all c h1).imp (fun ⟨y, e, hy⟩ => ⟨y, e, List.mem_append_left _ hy⟩) id
    · exact .inl ⟨x, List.mem_singleton.1 h1, by simp⟩
  · intro u hu
    rcases List.mem_append.1 hu with h1 | h1
    · exact h.uns u h1
    · exact ⟨x, List.mem_of_getElem? hi, List.mem_singleton.1 h1⟩
theorem ParR.clause (h : ParR Φ cs i w us uv cv K cb lb L) {c : List Int} {p b : Nat} {cv' : Value} (hi : cs[i]? = some c) (h2 : 2 ≤ c.length)
    (hp : PMem Φ w' 0 us uv (List.range (K + 1)) cv' (K + 1) (upd cb K p) (upd lb K b) (upd L K (c.map enc)) (.slice none 0 0) []) : ParR Φ cs (i + 1) w' us uv cv' (K + 1) (upd cb K p) (upd lb K b) (upd L K (c.map enc)) := by
  have hlt := (List.getElem?_eq_some_iff.1 hi).1
  refine ⟨hp, by have := h.hK; omega, by have := h.hu; omega, ?_, ?_, h.uns⟩
  · intro d hd
    rw [List.take_succ_eq_append_getElem hlt, (List.getElem?_eq_some_iff.1 hi).2] at hd
    rcases List.mem_append.1 hd with h1 | h1
    · exact (h.all d h1).imp id (fun ⟨k, hk, e⟩ => ⟨k, by omega, by rw [upd_other _ _ (by omega)]; exact e⟩)
    · exact .inr ⟨K, by omega, by rw [upd_same, List.mem_singleton.1 h1]⟩
  · intro k hk
    by_cases e : k = K
    · subst e; exact ⟨c, List.mem_of_getElem? hi, h2, upd_same _ _ _⟩
    · rw [upd_other _ _ e]; exact h.cls k (by omega)
end

/-- The model while the units are bound: i of them are. -/
structure UniR (T : Nat → Prop) (m : List Int) (us : List Nat) (i : Nat) : Prop where
  sound : ∀ l, l < 16 → tru m l → T l
  mval : ∀ v ∈ m, v = 0 ∨ v = 1 ∨ v = -1
  utru : ∀ u ∈ us.take i, tru m u
theorem UniR.start (T : Nat → Prop) (us : List Nat) : UniR T (List.replicate 8 0) us 0 := by
  refine ⟨fun l hl ht => ?_, fun v hv => .inl (List.eq_of_mem_replicate hv), by simp⟩
  unfold tru lv at ht
  have : (List.replicate 8 (0 : Int)).getD (l / 2) 0 = 0 := by
    rw [List.getD_eq_getElem?_getD, List.getElem?_replicate]
    split <;> rfl
  rw [this, (sgn_zero l 0).2 rfl] at ht
  omega
theorem UniR.keep {T : Nat → Prop} {m : List Int} {us : List Nat} {i u : Nat} (h : UniR T m us i) (hu : us[i]? = some u) (ht : tru m u) : UniR T m us (i + 1) := by
  refine ⟨h.sound, h.mval, fun x hx => ?_⟩
  have hlt := (List.getElem?_eq_some_iff.1 hu).1
  rw [List.take_succ_eq_append_getElem hlt, (List.getElem?_eq_some_iff.1 hu).2] at hx
  rcases List.mem_append.1 hx with h1 | h1
  · exact h.utru x h1
  · rw [List.mem_singleton.1 h1]; exact ht
theorem UniR.bind {T : Nat → Prop} {m : List Int} {us : List Nat} {i u : Nat} (h : UniR T m us i) (hm : m.length = 8) (hu : us[i]? = some u) (h16 : u < 16) (h0 : lv m u = 0) (hT : T u) : UniR T (setm m u 1) us (i + 1) := by
  have he := ext_setm (v := 1) hm h16 h0
  have h1 : UniR T (setm m u 1) us i := by
    refine ⟨fun l hl ht => ?_, fun v hv => ?_, fun x hx => he x (h.utru x hx)⟩
    · rcases setm_cases hm h16 (v := 1) l with ⟨e, _⟩ | ⟨_, e⟩ | ⟨_, e⟩
      · rw [e]; exact hT
      · unfold tru at ht; omega
      · exact h.sound l hl (by unfold tru at *; omega)
    · rcases List.mem_or_eq_of_mem_set hv with hv | hv
      · exact h.mval v hv
      · rw [hv]; exact sgn_one u
  exact h1.keep hu (by unfold tru; rw [lv_setm_same hm h16]; omega)

/-- All is read, and the units are bound: the problem as simplify2 takes it. -/
theorem ParR.toAbs {Φ : PL} {cs : List (List Int)} {w : World} {us : List Nat} {uv cv : Value} {K : Nat} {cb lb : Nat → Nat} {L : Nat → List Nat} {T : Nat → Prop} {Bot : Prop} {m : List Int} (h : ParR Φ cs cs.length w us uv cv K cb lb L) (hok : ∀ c ∈ cs, ClsOk c) (hlen : cs.length ≤ 20)
    (hT : ∀ c ∈ cs, Rules T Bot (c.map enc)) (hu : UniR T m us us.length) (hm : m.length = 8) : PAbs (cs.map (·.map enc)) T Bot m us (List.range K) L := by
  refine ⟨fun k hk => ?_, List.nodup_range, hu.sound, fun u hx => ?_, hu.mval, hm, fun c hc => ?_, ?_⟩
  · obtain ⟨c, hc, h2, e⟩ := h.cls k (List.mem_range.1 hk)
    rw [e]
    exact ⟨(hok c hc).cl, by simpa using h2, hT c hc⟩
  · refine ⟨?_, hu.utru u (by rw [List.take_length]; exact hx)⟩
    obtain ⟨x, hx, e⟩ := h.uns u hx
    rw [e]; exact enc_lt ((hok _ hx).rng x (by simp))
  · obtain ⟨d, hd, rfl⟩ := List.mem_map.1 hc
    rcases h.all d (by rw [List.take_length]; exact hd) with ⟨x, e, hx⟩ | ⟨k, hk, e⟩
    · exact .inl ⟨enc x, by simp [e], hu.utru _ (by rw [List.take_length]; exact hx)⟩
    · exact .inr ⟨k, List.mem_range.2 hk, by rw [e]; exact ⟨fun x hx => .inl hx, fun x hx => hx⟩⟩
  · have h1 := h.hu
    have h2 : m.count 0 ≤ m.length := List.count_le_length
    omega

theorem lits_mid {α β : Type} {f : α → β} {c : List α} {j : Nat} {z : β} (hj : j < c.length) : (((c.take j).map f) ++ List.replicate (c.length - j) z)[j]? = some z := by
  have hl : ((c.take j).map f).length = j := by simp; omega
  rw [List.getElem?_append_right (by omega), hl, Nat.sub_self, List.getElem?_replicate, if_pos (by omega)]
theorem lits_set {α β : Type} {f : α → β} {c : List α} {j : Nat} {z : β} {x : α} (hx : c[j]? = some x) : (((c.take j).map f) ++ List.replicate (c.length - j) z).set j (f x) = ((c.take (j + 1)).map f) ++ List.replicate (c.length - (j + 1)) z := by
  have hj := (List.getElem?_eq_some_iff.1 hx).1
  have hl : ((c.take j).map f).length = j := by simp; omega
  rw [List.set_append_right _ _ (by omega), hl, Nat.sub_self, List.take_succ_eq_append_getElem hj, (List.getElem?_eq_some_iff.1 hx).2]
  rw [show c.length - j = (c.length - (j + 1)) + 1 by omega, List.replicate_succ]
  simp

theorem Try.info50 : (Try.prog.info? 50).map (fun i => (i.zero, i.size, i.bytes)) = some (some (.pointer none), 1, 8) := by kernel_rfl
theorem Try.info51 : (Try.prog.info? 51).map (fun i => (i.zero, i.size, i.bytes)) = some (some (.int .i64 0), 1, 8) := by kernel_rfl
theorem made_rep (z : Value) (n : Nat) : madeCells #[z] n = Array.replicate n z := by
  apply Array.ext_getElem?
  intro i
  unfold madeCells
  by_cases h : i < n <;> simp [h, Nat.mod_one]
theorem Row.make (w : World) (e : TypeId) (z : Value) (n : Nat) : Row (w.alloc (.cells (Array.replicate n z) e)) w.heap.size e (List.replicate n z) := by
  have h := Row.new w e (List.replicate n z)
  simpa using h
theorem mk_row (t e : TypeId) (z : Value) (bytes : Nat) (ht : Try.prog.underlying t = some (.slice e)) (hinfo : (Try.prog.info? e).map (fun i => (i.zero, i.size, i.bytes)) = some (some z, 1, bytes)) (hz1 : z.cells = #[z]) (n : Nat) (hbytes : bytes * n ≤ 281474976710656) (h63 : n ≤ 1000) (w : World) :
    (Instr.makeSlice t (.int .i64 (n : Int)) (.int .i64 (n : Int))).run Try.prog w = .ok (.slice (some ⟨w.heap.size, 0, none⟩) n n) (w.alloc (.cells (Array.replicate n z) e)) := by
  rw [← made_rep]
  exact run_make_row' t e z bytes ht hinfo hz1 .i64 .i64 n hbytes (by omega) w

set_option maxRecDepth 100000 in
theorem new_any (b n cap : Nat) (w : World) :
    Calls Try.prog 47 #[.slice (some ⟨b, 0, none⟩) n cap] w fun e w' => e = .returned (.pointer (some ⟨w.heap.size, 0, none⟩)) ∧ w.alloc (.cells #[.slice (some ⟨b, 0, none⟩) n cap, .int .u32 0, .float .f32 0, .pointer none] 115) = w' := by
  go_enter Try.func47, Try.ntmps47
  go_wp2
  go_ret
  exact ⟨rfl, rfl⟩
end Go.Proofs.Ytiimddkopiknpaa
