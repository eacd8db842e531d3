/- updateStatus: contract. -/
import Derived.Test.YtiimddkopiknpaaAdd
import Derived.Test.YtiimddkopiknpaaPrpA
namespace Go.Proofs.Ytiimddkopiknpaa
open Go.RowKit
attribute [local go_sem ↓] Go.wp_at_zero Go.wp_at_succ
section
variable {Φ : PL} {w w' : World} {st : Int} {us : List Nat} {uv : Value} {CS : List Nat} {cv : Value} {K : Nat} {cb lb : Nat → Nat} {L : Nat → List Nat} {mv : Value} {m : List Int}

/-- The list of clauses is cut. -/
theorem PMem.cut (h : PMem Φ w st us uv CS cv K cb lb L mv m) {n cap : Nat} {a : Option Addr} (hn : n ≤ CS.length) (hcv : cv = .slice a CS.length cap) : PMem Φ (w.setCell ⟨Φ.p, 1, none⟩ (.slice a n cap)) st us uv (CS.take n) (.slice a n cap) K cb lb L mv m := by
  refine h.list (grownBy_refl _ _) ?_
  have hl : (CS.take n).length = n := by simp; omega
  rw [hl]
  have ho := h.cls
  rcases ho.2 with ⟨e, e2⟩ | ⟨g, cap', cur, e, _⟩
  · rw [hcv] at e
    injection e with e e1 e3
    have : n = 0 := by omega
    subst e this e3
    exact ⟨by simp [ptrs], .inl ⟨rfl, rfl⟩⟩
  · rw [hcv] at e
    injection e with e e1 e3
    subst e e3
    rw [hcv] at ho
    have := own_cut ho hn
    simpa [ptrs, List.map_take] using this

set_option maxRecDepth 100000 in
set_option maxHeartbeats 1000000 in
theorem upd_mem {n : Nat} (h : PMem Φ w 0 us uv CS cv K cb lb L mv m) (hn : n ≤ CS.length) :
    Calls Try.prog 63 #[.pointer (some ⟨Φ.p, 0, none⟩), .int .i64 (n : Int)] w fun e w' => e = .returned (.tuple #[]) ∧ ∃ cv' st', (st' = 0 ∨ st' = 1) ∧ PMem Φ w' st' us uv (CS.take n) cv' K cb lb L mv m := by
  obtain ⟨a, cap, hcv, hcap, hmx, _⟩ := own_form h.cls
  have h1 := h.cut hn hcv
  have h2 := h1.status 1
  have f1 := h.pc (i := 1) rfl
  have f2 := h.pf 1
  have g1 := h1.pc (i := 2) rfl
  have g2 := h1.pf 2
  rw [hcv] at f1
  have n0 : (0 : Int) ≤ (n : Int) := by omega
  have n1 : (n : Int) ≤ (cap : Int) := by omega
  have n2 : ((n : Int)).toNat = n := by omega
  have ha : (a = none ∧ CS.length = 0) ∨ ∃ g, a = some ⟨g, 0, none⟩ := by
    rcases h.cls.2 with ⟨e, e2⟩ | ⟨g, _, _, e, _⟩
    · rw [hcv] at e; injection e with e; exact .inl ⟨e, e2⟩
    · rw [hcv] at e; injection e with e; exact .inr ⟨g, e⟩
  have H1 := Lib.hid h1
  have H2 := Lib.hid h2
  clear h h1 h2 hcv
  rcases ha with ⟨rfl, hl0⟩ | ⟨g, rfl⟩
  · have hz : n = 0 := by omega
    subst hz
    go_enter Try.func63, Try.ntmps63
    go_wp2_with fail
    go_end0
    exact ⟨rfl, _, 1, .inr rfl, H2.out⟩
  · by_cases hz : n = 0
    · subst hz
      go_enter Try.func63, Try.ntmps63
      go_wp2_with fail
      go_end0
      exact ⟨rfl, _, 1, .inr rfl, H2.out⟩
    · have hzb : ((n : Int) == 0) = false := by simpa using hz
      go_enter Try.func63, Try.ntmps63
      go_wp2_with fail
      go_end0
      exact ⟨rfl, _, 0, .inl rfl, H1.out⟩
end
end Go.Proofs.Ytiimddkopiknpaa
