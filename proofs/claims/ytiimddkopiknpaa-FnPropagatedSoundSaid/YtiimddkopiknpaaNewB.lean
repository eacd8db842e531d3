/- Where the solver's blocks lie once New has made them; what initWatcherList starts from. -/
import Derived.Test.YtiimddkopiknpaaIniB
import Derived.Test.YtiimddkopiknpaaAdd
namespace Go.Proofs.Ytiimddkopiknpaa
open Go.RowKit

/-- The clauses that are left, counted anew. -/
def rn {α : Type} (f : Nat → α) (CS : List Nat) (k : Nat) : α := f (CS.getD k 0)
def newLay (Φ : PL) (s bm br Bt : Nat) (CS : List Nat) (cb lb : Nat → Nat) : Lay :=
  { w0 := Φ.w0, B0 := Φ.B0, s := s, bb := 0, bh := Φ.B0 + 1, bp := 0, ba := 0, bm := bm, br := br, Bt := Bt, K := CS.length, cb := rn cb CS, lb := rn lb CS }

theorem rn_get {CS : List Nat} {k : Nat} (h : k < CS.length) : CS[k]? = some (CS.getD k 0) := by rw [List.getD_eq_getElem?_getD, List.getElem?_eq_getElem h]; rfl
theorem rn_mem {CS : List Nat} {k : Nat} (h : k < CS.length) : CS.getD k 0 ∈ CS := List.mem_of_getElem? (rn_get h)
theorem rn_inj {CS : List Nat} (hn : CS.Nodup) {k k' : Nat} (h : k < CS.length) (h' : k' < CS.length) (e : CS.getD k 0 = CS.getD k' 0) : k = k' := by
  have h1 := rn_get h
  rw [e, ← rn_get h'] at h1
  exact (List.getElem?_inj h hn).1 h1

section
variable {Φ : PL} {w w3 : World} {st : Int} {us : List Nat} {uv : Value} {CS : List Nat} {cv : Value} {K : Nat} {cb lb : Nat → Nat} {L : Nat → List Nat} {m : List Int} {bm : Nat}

theorem newLayOk (h : PMem Φ w st us uv CS cv K cb lb L (.slice (some ⟨bm, 0, none⟩) 8 8) m) (hCS : ∀ k ∈ CS, k < K) (hnd : CS.Nodup) (hlen : CS.length ≤ 20) {s br : Nat} (hs : w.heap.size ≤ s) (hbr : w.heap.size ≤ br) :
    LayOk (newLay Φ s bm br w.heap.size CS cb lb) := by
  have hB : Φ.B0 ≤ w.heap.size := Nat.le_trans Φ.b0 h.bel.size
  refine ⟨fun k k' hk hk' e => rn_inj hnd hk hk' (h.cbI _ _ (hCS _ (rn_mem hk)) (hCS _ (rn_mem hk')) e), fun k k' hk hk' e => rn_inj hnd hk hk' (h.lbI _ _ (hCS _ (rn_mem hk)) (hCS _ (rn_mem hk')) e), ?_, ?_, hlen, Φ.b0, Nat.le_trans hB hs, ?_, Nat.le_trans hB hbr, Nat.le_succ _,
    fun k hk => h.bcb _ (hCS _ (rn_mem hk)), fun k hk => h.blb _ (hCS _ (rn_mem hk)), hB⟩
  · intro k hk
    obtain ⟨_, a3⟩ := (h.db _ (hCS _ (rn_mem hk))).row
    exact a3.lt
  · show (0 : Nat) ≠ Φ.B0 + 1
    omega
  · rcases h.mod with ⟨e, _⟩ | ⟨b, e, hb, _, _⟩
    · cases e
    · injection e with e _ _
      injection e with e
      injection e with e
      subst e
      exact hb

theorem newPre (h : PMem Φ w st us uv CS cv K cb lb L (.slice (some ⟨bm, 0, none⟩) 8 8) m) (hCS : ∀ k ∈ CS, k < K) (hg : w.grownBy w3 none) {s br bt ct : Nat} {C : List Value} (rs : Row w3 s 78 C) (c4 : C[4]? = some (.int .i64 8)) (c14 : C[14]? = some (.slice (some ⟨bt, 0, none⟩) us.length ct))
    (c15 : C[15]? = some (.slice (some ⟨bm, 0, none⟩) 8 8)) (c20 : C[20]? = some (.slice (some ⟨br, 0, none⟩) 8 8)) (rr : Row w3 br 50 (List.replicate 8 (.pointer none))) (rt : Row w3 bt 90 (List.replicate ct (.int .i32 0))) (hbt : w.heap.size ≤ bt) (hct : us.length ≤ ct) (hc2 : ct ≤ 1000) :
    Pre (newLay Φ s bm br w.heap.size CS cb lb) w3 C m (List.replicate us.length 0) (.slice (some ⟨bt, 0, none⟩) us.length ct) (rn L CS) := by
  obtain ⟨rm, hml, _⟩ := h.md rfl
  refine ⟨rs, c4, c14, c15, c20, rm.kept hg (by simp), hml, ⟨_, rr, by simp⟩, ?_, fun k hk => (h.db _ (hCS _ (rn_mem hk))).kept hg (by simp) (by simp), h.below hg (fun _ h => by cases h), hg.size⟩
  rw [List.length_replicate]
  refine ⟨by simp, .inr ⟨bt, ct, (List.replicate ct (Value.int .i32 0)).toArray, rfl, hbt, (by unfold Row at rt; exact rt), hct, by unfold maxLen; omega, by simp, ?_⟩⟩
  simp [litV, Nat.min_eq_left hct]
end
end Go.Proofs.Ytiimddkopiknpaa
