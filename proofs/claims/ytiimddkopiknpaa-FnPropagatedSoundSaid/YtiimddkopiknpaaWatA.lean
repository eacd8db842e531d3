/- The lists of watchers of binary clauses; what a clause of the solver is watched by at the start. -/
import Derived.Test.YtiimddkopiknpaaSpcA
namespace Go.Proofs.Ytiimddkopiknpaa
open Go.RowKit
section
variable {Λ : Lay} {w w' : World} {m m' : List Int} {tr tr' : List Nat} {tv tv' : Value} {L L' : Nat → List Nat} {EV EV' : Nat → Value} {E E' : Nat → List (Nat × Nat)}

/-- A list of watchers (one of the sixteen of binary clauses) has been appended to, or cut: its array, then its slice. -/
theorem Mem.chWatchB (ok : LayOk Λ) (h : Mem Λ w m tr tv L EV E) {y : Nat} {es : List (Nat × Nat)} {w1 : World} {v : Value} (hy : y < 16) (hg : w.grownBy w1 (EV (y + 16)).ownBlock) (ho : w1.ownsRow Λ.Bt 110 2 v es.length (flat Λ es))
    (hBB : ∀ k, some Λ.bb = some k → Λ.B0 ≤ k) (hv : v.ownBlock = (EV (y + 16)).ownBlock ∨ ∃ g, v.ownBlock = some g ∧ w.heap.size ≤ g) :
    Mem Λ (w1.setCell ⟨Λ.bb, y, none⟩ v) m tr tv L (upd EV (y + 16) v) (upd E (y + 16) es) := by
  have hc : Chg w w1 (EV (y + 16)).ownBlock 110 := Chg.ofOwn (h.own (y + 16) (by omega)) hg
  have r1 := hc.row h.hdrB (by decide)
  have hd : Chg w1 (w1.setCell ⟨Λ.bb, y, none⟩ v) (some Λ.bb) 108 := Chg.set r1 y v
  have hfresh : ∀ z, z < 32 → z ≠ y + 16 → ∀ g, (EV z).ownBlock = some g → v.ownBlock ≠ some g := by
    intro z hz hzy g hg1 hg2
    rcases hv with hv | ⟨g', hv, hle⟩
    · exact h.dis z (y + 16) hz (by omega) hzy g hg1 (hv ▸ hg2)
    · rw [hv] at hg2
      injection hg2 with hg2
      have := ((h.own z hz).lt g hg1).2
      omega
  refine ⟨?_, hd.row (hc.row h.model (by decide)) (by decide), h.mlen, ?_, hd.own (hc.own h.trail (by decide)) (by decide), hd.row (hc.row h.pb (by decide)) (by decide), hd.row (hc.row h.am (by decide)) (by decide),
    fun k hk => let ⟨x, a⟩ := h.db k hk; ⟨x, hd.clause (hc.clause a (by decide) (by decide)) (by decide) (by decide)⟩, ?_, ?_, ?_, ?_,
    (h.below ok hg (own_le (h.own (y + 16) (by omega)) ok.bBt)).grown hd.hg (Nat.le_trans (Nat.le_trans ok.b0 h.bel.size) hg.size) hBB, Nat.le_trans (Nat.le_trans h.bt hg.size) hd.hg.size⟩
  · obtain ⟨C, r, hC⟩ := h.solver; exact ⟨C, hd.row (hc.row r (by decide)) (by decide), hC⟩
  · obtain ⟨C, r, hC⟩ := h.reason; exact ⟨C, hd.row (hc.row r (by decide)) (by decide), hC⟩
  · have := (hc.row h.hdr (by decide)).kept hd.hg (by intro hh; injection hh with hh; exact ok.hb hh)
    refine (congrArg (Row _ _ _) (List.map_congr_left fun i hi => ?_)).mp this
    have := List.mem_range.1 hi
    exact (upd_other EV v (by omega : i ≠ y + 16)).symm
  · have := r1.set y v
    refine (congrArg (Row _ _ _) (List.ext_getElem? fun i => ?_)).mp this
    rw [List.getElem?_set]
    simp only [List.length_map, List.length_range, List.getElem?_map]
    by_cases e : y = i
    · subst e; simp [hy]
    · have e' : ¬ i + 16 = y + 16 := fun h => e (by omega)
      simp only [e, if_false]
      by_cases hi : i < 16 <;> simp [hi, upd_other EV v e']
  · intro z hz
    by_cases e : z = y + 16
    · subst e; simpa using hd.own ho (by decide)
    · rw [upd_other _ _ e, upd_other _ _ e]
      refine hd.own (hc.ownNe (h.own z hz) (fun g hg' hh => h.dis (y + 16) z (by omega) hz (Ne.symm e) g hh hg')) (by decide)
  · intro z z' hz hz' hne g h1 h2
    by_cases e : z = y + 16
    · subst e
      rw [upd_same] at h1
      rw [upd_other _ _ (Ne.symm hne)] at h2
      exact hfresh z' hz' (Ne.symm hne) g h2 h1
    · rw [upd_other _ _ e] at h1
      by_cases e' : z' = y + 16
      · subst e'
        rw [upd_same] at h2
        exact hfresh z hz e g h1 h2
      · rw [upd_other _ _ e'] at h2
        exact h.dis z z' hz hz' hne g h1 h2

/-- As watch_step, of a binary clause. -/
theorem watch_stepB (ok : LayOk Λ) (h : Mem Λ w m tr tv L EV E) {y g f k : Nat} {cap : Nat} {w1 : World} (hBB : ∀ k, some Λ.bb = some k → Λ.B0 ≤ k) (hy : y < 16) (hg : w.grownBy w1 (EV (y + 16)).ownBlock)
    (ho : w1.ownsRow Λ.Bt 110 2 (.slice (some ⟨g, 0, none⟩) ((E (y + 16)).length + 1) cap) ((E (y + 16)).length + 1) (flat Λ (E (y + 16)) ++ [litV f, .pointer (some ⟨Λ.cb k, 0, none⟩)])) (hat : (EV (y + 16)).ownBlock = some g ∨ g = w.heap.size) :
    Mem Λ (w1.setCell ⟨Λ.bb, y, none⟩ (.slice (some ⟨g, 0, none⟩) ((E (y + 16)).length + 1) cap)) m tr tv L (upd EV (y + 16) (.slice (some ⟨g, 0, none⟩) ((E (y + 16)).length + 1) cap)) (upd E (y + 16) (E (y + 16) ++ [(f, k)])) := by
  refine h.chWatchB ok (es := E (y + 16) ++ [(f, k)]) hy hg ?_ hBB ?_
  · rw [List.length_append, flat_append]
    exact ho
  · rcases hat with hat | hat
    · exact .inl (by rw [hat]; rfl)
    · exact .inr ⟨g, rfl, by omega⟩

/-- Rows of other types are laid as they were. -/
def KeepRows (w w' : World) : Prop := ∀ (b : Nat) (e : TypeId) (c : List Value), e ≠ 110 → e ≠ 108 → Row w b e c → Row w' b e c
theorem KeepRows.refl (w : World) : KeepRows w w := fun _ _ _ _ _ h => h
theorem KeepRows.trans {a b c : World} (h : KeepRows a b) (h' : KeepRows b c) : KeepRows a c := fun x e r h1 h2 hr => h' x e r h1 h2 (h x e r h1 h2 hr)
theorem KeepRows.clause {a b : World} (h : KeepRows a b) {p q : Nat} {l : List Nat} {x : Int} (c : ClauseAt a p q l x) : ClauseAt b p q l x :=
  let ⟨cap, f, e1, e2⟩ := c.hdr; let ⟨ex, e3⟩ := c.row; ⟨⟨cap, f, e1, h _ _ _ (by decide) (by decide) e2⟩, ⟨ex, h _ _ _ (by decide) (by decide) e3⟩⟩
theorem KeepRows.own {a b : World} (h : KeepRows a b) {B : Nat} {e : TypeId} {size n : Nat} {v : Value} {xs : List Value} (r : a.ownsRow B e size v n xs) (h1 : e ≠ 110) (h2 : e ≠ 108) : b.ownsRow B e size v n xs := by
  refine ⟨r.1, ?_⟩
  rcases r.2 with hh | ⟨g, cap, cur, e1, e2, e3, e4⟩
  · exact .inl hh
  · refine .inr ⟨g, cap, cur, e1, e2, ?_, e4⟩
    have := h g e cur.toList h1 h2 (by unfold Row; simpa using e3)
    unfold Row at this
    simpa using this
theorem watch_keeps (h : Mem Λ w m tr tv L EV E) {z y b : Nat} {w1 : World} {v : Value} {c : List Value} (hz : z < 32) (hg : w.grownBy w1 (EV z).ownBlock) (hb : Row w b 108 c) : KeepRows w (w1.setCell ⟨b, y, none⟩ v) := by
  have hc : Chg w w1 (EV z).ownBlock 110 := Chg.ofOwn (h.own z hz) hg
  have r1 := hc.row hb (by decide)
  have hd : Chg w1 (w1.setCell ⟨b, y, none⟩ v) (some b) 108 := Chg.set r1 y v
  exact fun p e r h1 h2 hr => hd.row (hc.row hr h1) h2

/-- A clause's two watchers. -/
def addW (d f s k : Nat) (E : Nat → List (Nat × Nat)) : Nat → List (Nat × Nat) :=
  upd (upd E (neg f + d) (E (neg f + d) ++ [(s, k)])) (neg s + d) (upd E (neg f + d) (E (neg f + d) ++ [(s, k)]) (neg s + d) ++ [(f, k)])
theorem addW_eq {d f s k : Nat} {E : Nat → List (Nat × Nat)} (h : f ≠ s) (z : Nat) : addW d f s k E z = E z ++ (if z = neg f + d then [(s, k)] else []) ++ (if z = neg s + d then [(f, k)] else []) := by
  have hne : neg f ≠ neg s := fun e => h (by rw [← neg_neg f, e, neg_neg])
  unfold addW
  by_cases h1 : z = neg s + d
  · subst h1
    have h2 : ¬ neg s + d = neg f + d := by omega
    rw [upd_same, upd_other _ _ h2]; simp [Ne.symm hne]
  · rw [upd_other _ _ h1]
    by_cases h2 : z = neg f + d
    · subst h2; rw [upd_same]; simp [hne]
    · rw [upd_other _ _ h2]; simp [h1, h2]
end
end Go.Proofs.Ytiimddkopiknpaa
