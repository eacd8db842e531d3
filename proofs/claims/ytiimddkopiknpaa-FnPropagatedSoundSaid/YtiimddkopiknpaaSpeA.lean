/- The specification's side: Of, Vars, of, set: walks and small laws. -/
import Derived.Test.YtiimddkopiknpaaInp
namespace Go.Proofs.Ytiimddkopiknpaa
open Go.RowKit
attribute [local go_sem ↓] Go.wp_at_zero Go.wp_at_succ

/-- What is known of a literal. -/
def slit (s : List Int) (x : Int) : Int := if x < 0 then -(s.getD x.natAbs 0) else s.getD x.natAbs 0
def sset (s : List Int) (x : Int) : List Int := s.set x.natAbs (if x < 0 then -1 else 1)

theorem slit_sset {s : List Int} {x y : Int} (hx : x.natAbs < s.length) (hx0 : x ≠ 0) (hy0 : y ≠ 0) :
    slit (sset s x) y = if y = x then 1 else if y = -x then -1 else slit s y := by
  unfold slit sset
  simp only [List.getD_eq_getElem?_getD, List.getElem?_set]
  by_cases h : x.natAbs = y.natAbs
  · rw [if_pos h, if_pos hx]
    simp only [Option.getD_some]
    by_cases e : y = x
    · rw [if_pos e, e]; split <;> omega
    · have e2 : y = -x := by omega
      rw [if_neg e, if_pos e2]
      split <;> split <;> omega
  · have e1 : ¬ y = x := fun e => h (by rw [e])
    have e2 : ¬ y = -x := fun e => h (by rw [e, Int.natAbs_neg])
    rw [if_neg h, if_neg e1, if_neg e2]
theorem slit_neg {s : List Int} {x : Int} (hx : x ≠ 0) : slit s (-x) = - slit s x := by
  unfold slit
  rw [Int.natAbs_neg]
  by_cases h : x < 0
  · rw [if_neg (by omega), if_pos h]; omega
  · rw [if_pos (by omega), if_neg h]

set_option maxRecDepth 100000 in
theorem of_any (x : Int) (w : World) (h1 : -8 ≤ x) (h2 : x ≤ 8) :
    Calls Try.prog 16 #[.int .i64 x] w fun e w' => e = .returned (.int .i64 (x.natAbs : Int)) ∧ w = w' := by
  have hw : IntKind.i64.wrap (-x) = -x := IntWalk.i64_in _ (by omega)
  by_cases hx : x < -x
  · go_enter Try.func16, Try.ntmps16
    go_wp2
    go_ret
    refine ⟨?_, rfl⟩
    have : (x.natAbs : Int) = max x (-x) := by omega
    rw [this]
    show Ending.returned (Value.int .i64 _) = _
    congr 2
    first | omega | (rw [hw]; omega)
  · go_enter Try.func16, Try.ntmps16
    go_wp2
    go_ret
    refine ⟨?_, rfl⟩
    have : (x.natAbs : Int) = max x (-x) := by omega
    rw [this]
    show Ending.returned (Value.int .i64 _) = _
    congr 2
    first | omega | (rw [hw]; omega)

set_option maxRecDepth 100000 in
theorem sof_any {w : World} {g n : Nat} {s : List Int} {x : Int} (hr : Row w g 3 (s.map (Value.int .i64))) (hn : n = s.length) (hx : x.natAbs < n) (hn2 : n ≤ 100) (hv : ∀ v ∈ s, v = 0 ∨ v = 1 ∨ v = -1) :
    Calls Try.prog 24 #[.slice (some ⟨g, 0, none⟩) n n, .int .i64 x] w fun e w' => e = .returned (.int .i64 (slit s x)) ∧ w = w' := by
  have c1 : w.cell? ⟨g, x.natAbs, none⟩ = some (.int .i64 (s.getD x.natAbs 0)) := hr.cell (by simp [← hn, hx])
  have hval : s.getD x.natAbs 0 = 0 ∨ s.getD x.natAbs 0 = 1 ∨ s.getD x.natAbs 0 = -1 := by
    rw [List.getD_eq_getElem?_getD, List.getElem?_eq_getElem (by omega), Option.getD_some]
    exact hv _ (List.getElem_mem _)
  have hs : slit s x = if x < 0 then -(s.getD x.natAbs 0) else s.getD x.natAbs 0 := rfl
  generalize s.getD x.natAbs 0 = z at c1 hval hs
  have HS := Lib.hid hs
  clear hs hr hn hv
  have hwz : IntKind.i64.wrap (-z) = -z := IntWalk.i64_in _ (by omega)
  by_cases h : x < 0
  · have hw : IntKind.i64.wrap (-x) = -x := IntWalk.i64_in _ (by omega)
    have e1 : (-x).toNat = x.natAbs := by omega
    have e2 : (0 : Int) ≤ -x := by omega
    have e3 : -x < (n : Int) := by omega
    go_enter Try.func24, Try.ntmps24
    go_wp2
    go_ret
    exact ⟨by have e := HS.out; rw [if_pos h] at e; rw [e]; rfl, rfl⟩
  · have e1 : x.toNat = x.natAbs := by omega
    have e2 : (0 : Int) ≤ x := by omega
    have e3 : x < (n : Int) := by omega
    go_enter Try.func24, Try.ntmps24
    go_wp2
    go_ret
    exact ⟨by have e := HS.out; rw [if_neg (by omega)] at e; rw [e]; rfl, rfl⟩

set_option maxRecDepth 100000 in
theorem sset_any {w : World} {g n : Nat} {s : List Int} {x : Int} (hr : Row w g 3 (s.map (Value.int .i64))) (hn : n = s.length) (hx : x.natAbs < n) (hn2 : n ≤ 100) :
    Calls Try.prog 25 #[.slice (some ⟨g, 0, none⟩) n n, .int .i64 x] w fun e w' => e = .returned (.tuple #[]) ∧ Row w' g 3 ((sset s x).map (Value.int .i64)) ∧ w.grownBy w' (some g) := by
  have c1 : w.cell? ⟨g, x.natAbs, none⟩ = some (.int .i64 (s.getD x.natAbs 0)) := hr.cell (by simp [← hn, hx])
  have f1 := hr.frozen x.natAbs
  have hgoal : ∀ v : Int, v = (if x < 0 then -1 else 1) → Row (w.setCell ⟨g, x.natAbs, none⟩ (.int .i64 v)) g 3 ((sset s x).map (Value.int .i64)) ∧ w.grownBy (w.setCell ⟨g, x.natAbs, none⟩ (.int .i64 v)) (some g) := fun v hv => by
    refine ⟨?_, grownBy_setCell w ⟨g, x.natAbs, none⟩ _⟩
    have := hr.set x.natAbs (.int .i64 v)
    rw [hv] at this ⊢
    rw [← List.map_set] at this
    exact this
  generalize s.getD x.natAbs 0 = z at c1
  have HG := Lib.hid hgoal
  clear hgoal hr hn
  by_cases h : x < 0
  · have hw : IntKind.i64.wrap (-x) = -x := IntWalk.i64_in _ (by omega)
    have e1 : (-x).toNat = x.natAbs := by omega
    have e2 : (0 : Int) ≤ -x := by omega
    have e3 : -x < (n : Int) := by omega
    go_enter Try.func25, Try.ntmps25
    go_wp2
    go_end0
    exact ⟨rfl, HG.out _ (by rw [if_pos h])⟩
  · have e1 : x.toNat = x.natAbs := by omega
    have e2 : (0 : Int) ≤ x := by omega
    have e3 : x < (n : Int) := by omega
    go_enter Try.func25, Try.ntmps25
    go_wp2
    go_end0
    exact ⟨rfl, HG.out _ (by rw [if_neg (by omega)])⟩

set_option maxRecDepth 100000 in
set_option maxHeartbeats 1000000 in
theorem vars_any {w : World} {v : Value} {cs : List (List Int)} (hin : MatIn w v cs) (hl : ∀ c ∈ cs, ∀ x ∈ c, -8 ≤ x ∧ x ≤ 8) :
    Calls Try.prog 23 #[v] w fun e w' => (∃ N : Nat, e = .returned (.int .i64 (N : Int)) ∧ N ≤ 8 ∧ ∀ c ∈ cs, ∀ x ∈ c, x.natAbs ≤ N) ∧ w = w' := by
  obtain ⟨A, C, rfl, hC1, hC2, _, hrows⟩ := hin
  have HR := Lib.hid hrows
  have HL := Lib.hid hl
  have hlen : cs.length ≤ 9223372036854775807 := by unfold maxLen at hC2; omega
  clear hrows hl hC1 hC2
  go_enter Try.func23, Try.ntmps23
  go_wp2_with fail
  go_loopg [10, 3] (cs.length) (fun gk idx nn wr => ∃ (i N : Nat), idx = .int .i64 (i : Int) ∧ nn = .int .i64 (N : Int) ∧ i + gk = cs.length ∧ w = wr ∧ N ≤ 8 ∧ ∀ c ∈ cs.take i, ∀ x ∈ c, x.natAbs ≤ N)
  case atStart => exact ⟨0, 0, rfl, rfl, by omega, rfl, by omega, by simp⟩
  case round =>
    obtain ⟨i, N, rfl, rfl, hgk, rfl, hN, hall⟩ := hrel
    have HG := Lib.hid hgk
    have HA := Lib.hid hall
    clear hgk hall
    by_cases hlt : i < cs.length
    · obtain ⟨c, hc⟩ : ∃ c, cs[i]? = some c := ⟨_, List.getElem?_eq_getElem hlt⟩
      obtain ⟨b, o, rv, rfl, c1, hrv⟩ := HR.out i c hc
      obtain ⟨A2, C2, rfl, hC1, hC2, _, _, hcell⟩ := hrv
      have hlen2 : c.length ≤ 9223372036854775807 := by unfold maxLen at hC2; omega
      have HCell := Lib.hid hcell
      have HCi := Lib.hid hc
      clear hcell hc hC1 hC2
      obtain ⟨gk1, hgk1⟩ : ∃ k, k = gk := ⟨_, rfl⟩
      subst hgk1
      go_wp2_with fail
      go_loopg [16, 3] (c.length) (fun gk2 idx nn wr => ∃ (j M : Nat), idx = .int .i64 (j : Int) ∧ nn = .int .i64 (M : Int) ∧ j + gk2 = c.length ∧ w = wr ∧ M ≤ 8 ∧ N ≤ M ∧ ∀ x ∈ c.take j, x.natAbs ≤ M)
      case atStart => exact ⟨0, N, rfl, rfl, by omega, rfl, hN, by omega, by simp⟩
      case round =>
        obtain ⟨j, M, rfl, rfl, hgk2, rfl, hM, hNM, hall2⟩ := hrel
        have HG2 := Lib.hid hgk2
        have HA2 := Lib.hid hall2
        clear hgk2 hall2
        by_cases hlt2 : j < c.length
        · obtain ⟨x, hx⟩ : ∃ x, c[j]? = some x := ⟨_, List.getElem?_eq_getElem hlt2⟩
          obtain ⟨b2, o2, rfl, c2⟩ := HCell.out j x hx
          obtain ⟨hx1, hx2⟩ := HL.out c (List.mem_of_getElem? HCi.out) x (List.mem_of_getElem? hx)
          have HX := Lib.hid hx
          clear hx
          have hnext : ∀ P : Nat, M ≤ P → x.natAbs ≤ P → ∀ y ∈ c.take (j + 1), y.natAbs ≤ P := fun P h1 h2 y hy => by
            rw [List.take_succ_eq_append_getElem hlt2, (List.getElem?_eq_some_iff.1 HX.out).2] at hy
            rcases List.mem_append.1 hy with h | h
            · have := HA2.out y h; omega
            · rw [List.mem_singleton.1 h]; exact h2
          have HN := Lib.hid hnext
          clear hnext
          go_wp2_with fail
          refine (of_any x _ hx1 hx2).mono ?_
          rintro e w' ⟨rfl, rfl⟩
          have hab : x.natAbs ≤ 8 := by omega
          generalize x.natAbs = k at HN hab
          by_cases hmk : (M : Int) < (k : Int)
          · go_wp2_with fail
            go_roundg (gk - 1)
            case measure => have := HG2.out; omega
            case rel => exact ⟨j + 1, k, by go_num, rfl, by have := HG2.out; omega, rfl, hab, by omega, HN.out k (by omega) (Nat.le_refl _)⟩
          · go_wp2_with fail
            go_roundg (gk - 1)
            case measure => have := HG2.out; omega
            case rel => exact ⟨j + 1, M, by go_num, rfl, by have := HG2.out; omega, rfl, hM, hNM, HN.out M (Nat.le_refl _) (by omega)⟩
        · go_wp2_with fail
          go_roundg (gk1 - 1)
          case measure => have := HG.out; omega
          case rel =>
            refine ⟨i + 1, M, by go_num, rfl, by have := HG.out; omega, rfl, hM, fun d hd x hx => ?_⟩
            rw [List.take_succ_eq_append_getElem hlt, (List.getElem?_eq_some_iff.1 HCi.out).2] at hd
            rcases List.mem_append.1 hd with h | h
            · have := HA.out d h x hx; omega
            · rw [List.mem_singleton.1 h] at hx
              exact HA2.out x (by rw [List.take_of_length_le (by omega)]; exact hx)
    · go_wp2_with fail
      go_ret
      refine ⟨⟨N, rfl, hN, fun c hc => HA.out c ?_⟩, rfl⟩
      rw [List.take_of_length_le (by omega)]
      exact hc
end Go.Proofs.Ytiimddkopiknpaa
