/- The solver's memory once its lists of watchers are made, all empty. -/
import Derived.Test.YtiimddkopiknpaaIniA
namespace Go.Proofs.Ytiimddkopiknpaa
open Go.RowKit

def Lay.wl (Λ : Lay) (bb bh bp ba : Nat) : Lay := { Λ with bb := bb, bh := bh, bp := bp, ba := ba }

/-- Rows of other types are laid as they were. -/
def Keep3 (w w' : World) : Prop := ∀ (b : Nat) (e : TypeId) (c : List Value), e ≠ 110 → e ≠ 108 → e ≠ 78 → Row w b e c → Row w' b e c

theorem LayOk.wl {Λ : Lay} (ok : LayOk Λ) {bb bh bp ba : Nat} (h : bb ≠ bh) (hB : Λ.B0 ≤ bh) : LayOk (Λ.wl bb bh bp ba) :=
  ⟨ok.cbI, ok.lbI, ok.lbB, h, ok.hK, ok.b0, ok.bs, ok.bbm, ok.bbr, hB, ok.bcb, ok.blb, ok.bBt⟩

def wlC (C : List Value) (bb bh bp ba g K : Nat) : List Value :=
  (((((((C.set 6 (.int .i64 2000)).set 7 (.int .i64 1)).set 8 (.slice (some ⟨bb, 0, none⟩) 16 16)).set 9 (.slice (some ⟨bh, 0, none⟩) 16 16)).set 10 (.slice (some ⟨bp, 0, none⟩) 16 16)).set 11 (.slice (some ⟨ba, 0, none⟩) 16 16)).set 12 (.slice (some ⟨g, 0, none⟩) K K)).set 13 (.slice none 0 0)
def wlW (w : World) (s bb bh bp ba g K : Nat) : World :=
  (((((((w.setCell ⟨s, 6, none⟩ (.int .i64 2000)).setCell ⟨s, 7, none⟩ (.int .i64 1)).setCell ⟨s, 8, none⟩ (.slice (some ⟨bb, 0, none⟩) 16 16)).setCell ⟨s, 9, none⟩ (.slice (some ⟨bh, 0, none⟩) 16 16)).setCell ⟨s, 10, none⟩ (.slice (some ⟨bp, 0, none⟩) 16 16)).setCell ⟨s, 11, none⟩ (.slice (some ⟨ba, 0, none⟩) 16 16)).setCell ⟨s, 12, none⟩ (.slice (some ⟨g, 0, none⟩) K K)).setCell ⟨s, 13, none⟩ (.slice none 0 0)

theorem wlW_grown (w : World) (s bb bh bp ba g K : Nat) : w.grownBy (wlW w s bb bh bp ba g K) (some s) :=
  grownBy_trans (grownBy_trans (grownBy_trans (grownBy_trans (grownBy_trans (grownBy_trans (grownBy_trans (grownBy_setCell _ ⟨s, 6, none⟩ _) (grownBy_setCell _ ⟨s, 7, none⟩ _)) (grownBy_setCell _ ⟨s, 8, none⟩ _)) (grownBy_setCell _ ⟨s, 9, none⟩ _)) (grownBy_setCell _ ⟨s, 10, none⟩ _)) (grownBy_setCell _ ⟨s, 11, none⟩ _)) (grownBy_setCell _ ⟨s, 12, none⟩ _)) (grownBy_setCell _ ⟨s, 13, none⟩ _)
theorem wlW_row {w : World} {s bb bh bp ba g K : Nat} {C : List Value} (r : Row w s 78 C) : Row (wlW w s bb bh bp ba g K) s 78 (wlC C bb bh bp ba g K) :=
  (((((((r.set 6 _).set 7 _).set 8 _).set 9 _).set 10 _).set 11 _).set 12 _).set 13 _

theorem wlC_out (C : List Value) (bb bh bp ba g K i : Nat) (hi : i < 6 ∨ 14 ≤ i) : (wlC C bb bh bp ba g K)[i]? = C[i]? := by
  unfold wlC
  rw [List.getElem?_set_ne (by omega), List.getElem?_set_ne (by omega), List.getElem?_set_ne (by omega), List.getElem?_set_ne (by omega), List.getElem?_set_ne (by omega), List.getElem?_set_ne (by omega), List.getElem?_set_ne (by omega), List.getElem?_set_ne (by omega)]

theorem Pre.toMem {Λ : Lay} {w : World} {C : List Value} {m : List Int} {tr : List Nat} {tv : Value} {L : Nat → List Nat} (ok : LayOk Λ) (h : Pre Λ w C m tr tv L) {bb bh bp ba g : Nat}
    (r1 : Row w bb 108 (List.replicate 16 (.slice none 0 0))) (r2 : Row w bh 108 (List.replicate 16 (.slice none 0 0))) (r3 : Row w bp 58 (List.replicate 16 (.slice none 0 0))) (r4 : Row w ba 58 (List.replicate 16 (.slice none 0 0))) :
    Mem (Λ.wl bb bh bp ba) (wlW w Λ.s bb bh bp ba g Λ.K) m tr tv L (fun _ => .slice none 0 0) (Ews L 0) := by
  have hg := wlW_grown w Λ.s bb bh bp ba g Λ.K
  have hlen : 14 < C.length := (List.getElem?_eq_some_iff.1 h.c14).1
  have kp : ∀ b e c, Row w b e c → e ≠ 78 → Row (wlW w Λ.s bb bh bp ba g Λ.K) b e c := fun b e c r he => r.kept hg (by intro hh; injection hh with hh; exact r.ne h.solver he hh.symm)
  have hrep : List.replicate 16 (Value.slice none 0 0) = (List.range 16).map fun _ => (Value.slice none 0 0) := by simp [List.map_const']
  refine { solver := ⟨_, wlW_row h.solver, ?_⟩, model := kp _ _ _ h.model (by decide), mlen := h.mlen, reason := ?_, trail := ?_, pb := kp _ _ _ r3 (by decide), am := kp _ _ _ r4 (by decide), db := ?_, hdr := ?_, hdrB := ?_, own := ?_, dis := ?_, bel := ?_, bt := Nat.le_trans h.bt hg.size }
  · refine ⟨?_, ?_, ?_, ?_, ?_, ?_, ?_⟩
    · show (wlC C bb bh bp ba g Λ.K)[8]? = _
      unfold wlC
      rw [List.getElem?_set_ne (by omega), List.getElem?_set_ne (by omega), List.getElem?_set_ne (by omega), List.getElem?_set_ne (by omega), List.getElem?_set_ne (by omega), List.getElem?_set_self (by simp only [List.length_set]; omega)]
      rfl
    · show (wlC C bb bh bp ba g Λ.K)[9]? = _
      unfold wlC
      rw [List.getElem?_set_ne (by omega), List.getElem?_set_ne (by omega), List.getElem?_set_ne (by omega), List.getElem?_set_ne (by omega), List.getElem?_set_self (by simp only [List.length_set]; omega)]
      rfl
    · show (wlC C bb bh bp ba g Λ.K)[10]? = _
      unfold wlC
      rw [List.getElem?_set_ne (by omega), List.getElem?_set_ne (by omega), List.getElem?_set_ne (by omega), List.getElem?_set_self (by simp only [List.length_set]; omega)]
      rfl
    · show (wlC C bb bh bp ba g Λ.K)[11]? = _
      unfold wlC
      rw [List.getElem?_set_ne (by omega), List.getElem?_set_ne (by omega), List.getElem?_set_self (by simp only [List.length_set]; omega)]
      rfl
    · rw [wlC_out _ _ _ _ _ _ _ _ (by omega)]; exact h.c14
    · rw [wlC_out _ _ _ _ _ _ _ _ (by omega)]; exact h.c15
    · rw [wlC_out _ _ _ _ _ _ _ _ (by omega)]; exact h.c20
  · obtain ⟨rs, r, hl⟩ := h.reason
    exact ⟨rs, kp _ _ _ r (by decide), hl⟩
  · refine h.trail.kept hg ?_
    refine .inr fun hh => ?_
    exact own_ne h.trail h.solver (.inl (by decide)) hh
  · intro k hk
    have a := h.db k hk
    obtain ⟨cap, f, a1, a2⟩ := a.hdr
    obtain ⟨ex, a3⟩ := a.row
    exact ⟨0, ⟨cap, f, a1, kp _ _ _ a2 (by decide)⟩, ⟨ex, kp _ _ _ a3 (by decide)⟩⟩
  · rw [← hrep]; exact kp _ _ _ r2 (by decide)
  · rw [← hrep]; exact kp _ _ _ r1 (by decide)
  · intro z _; exact ⟨rfl, .inl ⟨rfl, rfl⟩⟩
  · intro z z' _ _ _ g hg; cases hg
  · exact h.bel.grown hg (Nat.le_trans ok.b0 h.bel.size) (some_le ok.bs)
end Go.Proofs.Ytiimddkopiknpaa
