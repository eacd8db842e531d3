/- The solver as New leaves it: plain law; stores into its struct and its trail. -/
import Derived.Test.YtiimddkopiknpaaNewB
import Derived.Test.YtiimddkopiknpaaPbA
namespace Go.Proofs.Ytiimddkopiknpaa
open Go.RowKit

theorem newAbs {C : List (List Nat)} {T : Nat → Prop} {Bot : Prop} {m : List Int} {us CS : List Nat} {L : Nat → List Nat} (ha : PAbs C T Bot m us CS L) (hO : Opn m CS L) :
    Abs CS.length ⟨T, rn L CS⟩ Bot m us (rn L CS) (Ews (rn L CS) CS.length) ∧ Pen CS.length m (rn L CS) (qu []) ∧ ∀ c ∈ C, SatC m c ∨ ∃ k, k < CS.length ∧ Cov m (rn L CS k) c := by
  have hcl : ∀ k, k < CS.length → ClOk (rn L CS k) ∧ 2 ≤ (rn L CS k).length ∧ Rules T Bot (rn L CS k) := fun k hk => ha.cl _ (rn_mem hk)
  have hw := Ews_ok (rn L CS) CS.length fun k hk => ⟨(hcl k hk).1, (hcl k hk).2.1⟩
  refine ⟨⟨fun k hk => (hcl k hk).1, fun k hk => (hcl k hk).2.1, fun k hk => (hcl k hk).2.2, hw.reg, hw.nod, hw.regW, hw.bin, hw.binW, ha.sound, ha.utru, ha.mlen, by have := ha.bnd; omega, fun _ _ => .refl _⟩, ?_, ?_⟩
  · intro k hk
    refine .inr fun x hx hf => ?_
    have := hO _ (rn_mem hk) x hx.mem
    unfold fls at hf
    omega
  · intro c hc
    rcases ha.cov c hc with h | ⟨id, hid, h⟩
    · exact .inl h
    · obtain ⟨k, hk, e⟩ := List.getElem_of_mem hid
      refine .inr ⟨k, hk, ?_⟩
      unfold rn
      rw [List.getD_eq_getElem?_getD, List.getElem?_eq_getElem hk, Option.getD_some, e]
      exact h

theorem ptrs_rn (cb : Nat → Nat) (CS : List Nat) : ptrs (rn cb CS) (List.range CS.length) = ptrs cb CS := by
  unfold ptrs
  refine List.ext_getElem? fun i => ?_
  by_cases h : i < CS.length
  · simp [h, rn]
  · rw [List.getElem?_eq_none (by simp; omega), List.getElem?_eq_none (by simp; omega)]

theorem Keep3.trans {a b c : World} (h : Keep3 a b) (h' : Keep3 b c) : Keep3 a c := fun x e r h1 h2 h3 hr => h' x e r h1 h2 h3 (h x e r h1 h2 h3 hr)
theorem Keep3.grown {a b : World} (h : a.grownBy b none) : Keep3 a b := fun _ _ _ _ _ _ hr => hr.kept h (by simp)
theorem Keep3.set {a : World} {s : Nat} {C : List Value} (h : Row a s 78 C) (i : Nat) (v : Value) : Keep3 a (a.setCell ⟨s, i, none⟩ v) := fun _ _ _ _ _ h3 hr => (Chg.set h i v).row hr h3
theorem Keep3.own {a b : World} (h : Keep3 a b) {B : Nat} {e : TypeId} {size n : Nat} {v : Value} {xs : List Value} (r : a.ownsRow B e size v n xs) (h1 : e ≠ 110) (h2 : e ≠ 108) (h3 : e ≠ 78) : b.ownsRow B e size v n xs := by
  refine ⟨r.1, ?_⟩
  rcases r.2 with hh | ⟨g, cap, cur, e1, e2, e3, e4⟩
  · exact .inl hh
  · refine .inr ⟨g, cap, cur, e1, e2, ?_, e4⟩
    have := h g e cur.toList h1 h2 h3 (by unfold Row; simpa using e3)
    unfold Row at this
    simpa using this

section
variable {Λ : Lay} {w w' : World} {m : List Int} {tr : List Nat} {tv : Value} {L : Nat → List Nat} {EV : Nat → Value} {E : Nat → List (Nat × Nat)}

/-- A cell of the solver's struct that is not read. -/
theorem Mem.sset (ok : LayOk Λ) (h : Mem Λ w m tr tv L EV E) (i : Nat) (hi : 21 ≤ i) (v : Value) : Mem Λ (w.setCell ⟨Λ.s, i, none⟩ v) m tr tv L EV E := by
  obtain ⟨C, r, hC⟩ := h.solver
  have hc := Chg.set r i v
  have hn : ∀ j, j < 21 → (C.set i v)[j]? = C[j]? := fun j hj => by rw [List.getElem?_set_ne (by omega)]
  exact { solver := ⟨_, r.set i v, by rw [hn _ (by omega)]; exact hC.c8, by rw [hn _ (by omega)]; exact hC.c9, by rw [hn _ (by omega)]; exact hC.c10, by rw [hn _ (by omega)]; exact hC.c11, by rw [hn _ (by omega)]; exact hC.c14, by rw [hn _ (by omega)]; exact hC.c15, by rw [hn _ (by omega)]; exact hC.c20⟩
          model := hc.row h.model (by decide)
          mlen := h.mlen
          reason := let ⟨rs, a, b⟩ := h.reason; ⟨rs, hc.row a (by decide), b⟩
          trail := hc.own h.trail (by decide)
          pb := hc.row h.pb (by decide)
          am := hc.row h.am (by decide)
          db := fun k hk => let ⟨x, a⟩ := h.db k hk; ⟨x, hc.clause a (by decide) (by decide)⟩
          hdr := hc.row h.hdr (by decide)
          hdrB := hc.row h.hdrB (by decide)
          own := fun z hz => hc.own (h.own z hz) (by decide)
          dis := h.dis
          bel := h.below ok hc.hg (some_le ok.bs)
          bt := Nat.le_trans h.bt hc.hg.size }

/-- A literal of the trail is overwritten. -/
theorem Mem.tset (ok : LayOk Λ) (h : Mem Λ w m tr tv L EV E) {g n cap : Nat} (htv : tv = .slice (some ⟨g, 0, none⟩) n cap) (i l : Nat) : Mem Λ (w.setCell ⟨g, i, none⟩ (litV l)) m (tr.set i l) tv L EV E := by
  have hn := own_len h.trail htv
  subst htv hn
  have hg := grownBy_setCell w ⟨g, i, none⟩ (litV l)
  have hc := Chg.ofOwn h.trail hg
  have ho := own_set h.trail i (litV l)
  have hlt := (h.trail.lt g rfl).1
  exact { solver := let ⟨C, r, hC⟩ := h.solver; ⟨C, hc.row r (by decide), hC⟩
          model := hc.row h.model (by decide)
          mlen := h.mlen
          reason := let ⟨rs, a, b⟩ := h.reason; ⟨rs, hc.row a (by decide), b⟩
          trail := by rw [List.length_set, List.map_set]; exact ho
          pb := hc.row h.pb (by decide)
          am := hc.row h.am (by decide)
          db := fun k hk => by
            obtain ⟨x, a⟩ := h.db k hk
            refine ⟨x, hc.clauseNe a ?_ ?_⟩
            · intro hh
              obtain ⟨_, _, _, a2⟩ := a.hdr
              exact own_ne h.trail a2 (.inl (by decide)) hh
            · intro hh
              have h1 : some g = some (Λ.lb k) := hh
              injection h1 with h1
              have := ok.lbB k hk
              omega
          hdr := hc.row h.hdr (by decide)
          hdrB := hc.row h.hdrB (by decide)
          own := fun z hz => hc.own (h.own z hz) (by decide)
          dis := h.dis
          bel := h.below ok hg (own_le h.trail ok.bBt)
          bt := Nat.le_trans h.bt hg.size }
end
end Go.Proofs.Ytiimddkopiknpaa
