/- The laws' side: CNFOk, and the tests of sizes. -/
import Derived.Test.YtiimddkopiknpaaLawA
namespace Go.Proofs.Ytiimddkopiknpaa
open Go.RowKit
attribute [local go_sem ↓] Go.wp_at_zero Go.wp_at_succ

/-- Clauses as they are spoken of. -/
structure CnfOk (cs : List (List Int)) : Prop where
  ok : ∀ c ∈ cs, ClsOk c
  pos : 0 < cs.length
  len : cs.length ≤ 20

set_option maxRecDepth 100000 in
set_option maxHeartbeats 1000000 in
theorem cnf_any {w : World} {v : Value} {cs : List (List Int)} (h : MatIn w v cs) :
    Calls Try.prog 8 #[v] w (BPost w (CnfOk cs)) := by
  obtain ⟨A, C, rfl, hC1, hC2, _, hcell⟩ := h
  have HC := Lib.hid hcell
  have hlen : cs.length ≤ 9223372036854775807 := by unfold maxLen at hC2; omega
  clear hcell
  go_enter Try.func8, Try.ntmps8
  go_wp2_with fail
  go_loopg [7] (cs.length) (fun gk idx wr => ∃ (i : Nat), idx = .int .i64 (i : Int) ∧ i + gk = cs.length ∧ Below w.heap.size w wr ∧ ∀ c ∈ cs.take i, ClsOk c)
  case atStart => exact ⟨0, rfl, by omega, .refl _ _, by simp⟩
  case round =>
    obtain ⟨i, rfl, hgk, hb, hL⟩ := hrel
    have HG := Lib.hid hgk
    have HB := Lib.hid hb
    have HL := Lib.hid hL
    clear hgk hb hL
    by_cases hlt : i < cs.length
    · obtain ⟨c, hc⟩ : ∃ c, cs[i]? = some c := ⟨_, List.getElem?_eq_getElem hlt⟩
      obtain ⟨b1, o1, rv, rfl, c1, hrv⟩ := HC.out i c hc
      have d1 := HB.out.cell (cell_lt c1)
      rw [c1] at d1
      have hrv2 := hrv.below HB.out
      have HRV := Lib.hid hrv2
      have HX := Lib.hid hc
      clear c1 hc hrv hrv2
      go_wp2_with fail
      refine (lits_any HRV.out).mono ?_
      rintro e w' ⟨b, rfl, hb2, hiff⟩
      have HI := Lib.hid hiff
      have HB2 := Lib.hid (HB.out.trans (hb2.mono HB.out.size))
      clear hiff hb2 d1
      cases b
      · go_wp2_with fail
        go_ret
        refine ⟨false, rfl, HB2.out, (fun e => by cases e), fun h => ?_⟩
        have := HI.out.2 (h.ok c (List.mem_of_getElem? HX.out))
        cases this
      · have hok : ClsOk c := HI.out.1 rfl
        have HOk := Lib.hid hok
        clear hok
        go_wp2_with fail
        go_roundg (gk - 1)
        case measure => have := HG.out; omega
        case rel => exact ⟨i + 1, by go_num, by have := HG.out; omega, HB2.out, fun d hd => (mem_take_succ HX.out hd).elim (HL.out d) (fun e => by rw [e]; exact HOk.out)⟩
    · have h1 := HL.out
      rw [List.take_of_length_le (by omega)] at h1
      have HL2 := Lib.hid h1
      clear h1 HL
      by_cases h0 : 0 < cs.length
      · by_cases h20 : cs.length ≤ 20
        · go_wp2_with fail
          go_ret
          exact ⟨true, by first | rfl | (simp; omega), HB.out, (fun _ => ⟨HL2.out, h0, h20⟩), fun _ => rfl⟩
        · go_wp2_with fail
          go_ret
          exact ⟨false, by first | rfl | (simp; omega), HB.out, (fun e => by cases e), fun h => absurd h.len h20⟩
      · go_wp2_with fail
        go_ret
        exact ⟨false, by first | rfl | (simp; omega), HB.out, (fun e => by cases e), fun h => absurd h.pos h0⟩

/-- A test that only reads. -/
def AnyB (w : World) (e : Ending) (w' : World) : Prop := ∃ b, e = .returned (.bool b) ∧ w = w'
def AnyN (w : World) (e : Ending) (w' : World) : Prop := ∃ n, e = .returned (.int .i64 n) ∧ w = w'

set_option maxRecDepth 100000 in
set_option maxHeartbeats 1000000 in
theorem fits_any {w : World} {v : Value} {cs : List (List Int)} (h : MatIn w v cs) :
    Calls Try.prog 5 #[v] w (AnyB w) := by
  obtain ⟨A, C, rfl, hC1, hC2, _, hcell⟩ := h
  have HC := Lib.hid hcell
  have hlen : cs.length ≤ 9223372036854775807 := by unfold maxLen at hC2; omega
  clear hcell
  by_cases hbig : (2147483647 : Int) < (cs.length : Int)
  · go_enter Try.func5, Try.ntmps5
    go_wp2_with fail
    go_ret
    exact ⟨false, rfl, rfl⟩
  go_enter Try.func5, Try.ntmps5
  go_wp2_with fail
  go_loopg [10] (cs.length) (fun gk idx wr => ∃ (i : Nat), idx = .int .i64 (i : Int) ∧ i + gk = cs.length ∧ w = wr)
  case atStart => exact ⟨0, rfl, by omega, rfl⟩
  case round =>
    obtain ⟨i, rfl, hgk, rfl⟩ := hrel
    have HG := Lib.hid hgk
    clear hgk
    by_cases hlt : i < cs.length
    · obtain ⟨c, hc⟩ : ∃ c, cs[i]? = some c := ⟨_, List.getElem?_eq_getElem hlt⟩
      obtain ⟨b1, o1, rv, rfl, c1, hrv⟩ := HC.out i c hc
      obtain ⟨A2, C2, rfl, hC3, hC4, _⟩ := hrv
      have hl2 : c.length ≤ 9223372036854775807 := by unfold maxLen at hC4; omega
      clear hc hC4
      by_cases hbig2 : (2147483647 : Int) < (c.length : Int)
      · go_wp2_with fail
        go_ret
        exact ⟨false, rfl, rfl⟩
      · go_wp2_with fail
        go_roundg (gk - 1)
        case measure => have := HG.out; omega
        case rel => exact ⟨i + 1, by go_num, by have := HG.out; omega, rfl⟩
    · go_wp2_with fail
      go_ret
      exact ⟨true, rfl, rfl⟩

set_option maxRecDepth 100000 in
set_option maxHeartbeats 1000000 in
theorem sumInts_any {w : World} {v : Value} {cs : List (List Int)} (h : MatIn w v cs) :
    Calls Try.prog 7 #[v] w (AnyN w) := by
  obtain ⟨A, C, rfl, hC1, hC2, _, hcell⟩ := h
  have HC := Lib.hid hcell
  have hlen : cs.length ≤ 9223372036854775807 := by unfold maxLen at hC2; omega
  clear hcell
  go_enter Try.func7, Try.ntmps7
  go_wp2_with fail
  go_loopg [10, 3] (cs.length) (fun gk idx nv wr => ∃ (i : Nat) (n : Int), idx = .int .i64 (i : Int) ∧ nv = .int .i64 n ∧ i + gk = cs.length ∧ w = wr)
  case atStart => exact ⟨0, _, rfl, rfl, by omega, rfl⟩
  case round =>
    obtain ⟨i, n, rfl, rfl, hgk, rfl⟩ := hrel
    have HG := Lib.hid hgk
    clear hgk
    by_cases hlt : i < cs.length
    · obtain ⟨c, hc⟩ : ∃ c, cs[i]? = some c := ⟨_, List.getElem?_eq_getElem hlt⟩
      obtain ⟨b1, o1, rv, rfl, c1, hrv⟩ := HC.out i c hc
      obtain ⟨A2, C2, rfl, hC3, hC4, _⟩ := hrv
      have hl2 : c.length ≤ 9223372036854775807 := by unfold maxLen at hC4; omega
      clear hc hC4
      go_wp2_with fail
      go_roundg (gk - 1)
      case measure => have := HG.out; omega
      case rel => exact ⟨i + 1, _, by go_num, rfl, by have := HG.out; omega, rfl⟩
    · go_wp2_with fail
      go_ret
      exact ⟨_, rfl, rfl⟩

set_option maxRecDepth 100000 in
set_option maxHeartbeats 1000000 in
theorem beyond_any {w : World} {g : Nat} {n : Int} (h : w.cell? ⟨g, 0, none⟩ = some (.int .i64 n)) :
    Calls Try.prog 6 #[.slice (some ⟨g, 0, none⟩) 1 1] w (AnyB w) := by
  go_enter Try.func6, Try.ntmps6
  go_wp2_with fail
  go_loopg [7] 1 (fun gk idx wr => ∃ (i : Nat), idx = .int .i64 (i : Int) ∧ i + gk = 1 ∧ w = wr)
  case atStart => exact ⟨0, rfl, by omega, rfl⟩
  case round =>
    obtain ⟨i, rfl, hgk, rfl⟩ := hrel
    have HG := Lib.hid hgk
    by_cases hlt : i = 0
    · subst hlt
      clear hgk
      by_cases hbig : (1048576 : Int) < n
      · go_wp2_with fail
        go_ret
        exact ⟨true, rfl, rfl⟩
      · go_wp2_with fail
        go_roundg 0
        case measure => have := HG.out; omega
        case rel => exact ⟨1, by go_num, by omega, rfl⟩
    · have hi1 : i = 1 := by omega
      subst hi1
      clear hgk
      go_wp2_with fail
      go_ret
      exact ⟨false, rfl, rfl⟩
end Go.Proofs.Ytiimddkopiknpaa
