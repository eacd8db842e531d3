/- The laws' side: slices.Equal, LitsOk and what they ask first. -/
import Derived.Test.YtiimddkopiknpaaSpeD
namespace Go.Proofs.Ytiimddkopiknpaa
open Go.RowKit
attribute [local go_sem ↓] Go.wp_at_zero Go.wp_at_succ

/-- A value is a slice of the numbers xs, as far as it is read. -/
def RdIn (w : World) (v : Value) (xs : List Int) : Prop :=
  ∃ (A : Option Addr) (C : Nat), v = .slice A xs.length C ∧ ∀ j x, xs[j]? = some x → ∃ b o, A = some ⟨b, o, none⟩ ∧ w.cell? ⟨b, o + j, none⟩ = some (.int .i64 x)
theorem RowIn.rd {w : World} {v : Value} {xs : List Int} (h : RowIn w v xs) : RdIn w v xs := let ⟨A, C, e, _, _, _, _, h5⟩ := h; ⟨A, C, e, h5⟩
theorem own_rd {w : World} {B : Nat} {v : Value} {xs : List Int} (h : w.ownsRow B 3 1 v xs.length (xs.map (Value.int .i64))) : RdIn w v xs := by
  have h' := h
  rcases h'.2 with ⟨e, h0⟩ | ⟨g, cap, cur, e, _⟩
  · exact ⟨none, 0, by rw [e, h0], fun j x hx => by rw [List.length_eq_zero_iff.1 h0] at hx; simp at hx⟩
  · refine ⟨_, cap, e, fun j x hx => ?_⟩
    obtain ⟨g', cap', e', h2, _⟩ := own_cell h (i := j) (u := .int .i64 x) (by simp [hx])
    rw [e] at e'
    injection e' with e' _ _
    injection e' with e'
    injection e' with e'
    subst e'
    exact ⟨g, 0, rfl, by rw [Nat.zero_add]; exact h2⟩
theorem RdIn.below {w w' : World} {v : Value} {xs : List Int} (h : RdIn w v xs) (hb : Below w.heap.size w w') : RdIn w' v xs :=
  let ⟨A, C, e, h5⟩ := h
  ⟨A, C, e, fun j x hx => let ⟨b, o, e1, e2⟩ := h5 j x hx; ⟨b, o, e1, by rw [hb.cell (cell_lt e2)]; exact e2⟩⟩
theorem below_drewN (B : Nat) (w : World) (n : Nat) : Below B w (w.drewN n) := ⟨rfl, rfl, rfl, Nat.le_refl _, fun _ _ => rfl⟩

set_option maxRecDepth 100000 in
set_option maxHeartbeats 1000000 in
theorem eq_any {w : World} {v1 v2 : Value} {xs : List Int} (h1 : RdIn w v1 xs) (h2 : RdIn w v2 xs) (hlen : xs.length ≤ 100) :
    Calls Try.prog 12 #[v1, v2] w fun e w' => e = .returned (.bool true) ∧ Below w.heap.size w w' := by
  obtain ⟨A1, C1, rfl, h1⟩ := h1
  obtain ⟨A2, C2, rfl, h2⟩ := h2
  have H1 := Lib.hid h1
  have H2 := Lib.hid h2
  clear h1 h2
  go_enter Try.func12, Try.ntmps12
  go_wp2_with fail
  go_loopg [13] (xs.length) (fun gk idx wr => ∃ (i : Nat), idx = .int .i64 (i : Int) ∧ i + gk = xs.length ∧ Below w.heap.size w wr)
  case atStart => exact ⟨0, rfl, by omega, .refl _ _⟩
  case round =>
    obtain ⟨i, rfl, hgk, hb⟩ := hrel
    have HG := Lib.hid hgk
    have HB := Lib.hid hb
    clear hgk hb
    by_cases hlt : i < xs.length
    · obtain ⟨x, hx⟩ : ∃ x, xs[i]? = some x := ⟨_, List.getElem?_eq_getElem hlt⟩
      obtain ⟨b1, o1, rfl, c1⟩ := H1.out i x hx
      obtain ⟨b2, o2, rfl, c2⟩ := H2.out i x hx
      have d1 := HB.out.cell (cell_lt c1)
      have d2 := HB.out.cell (cell_lt c2)
      rw [c1] at d1
      rw [c2] at d2
      clear c1 c2 hx
      go_wp2_with fail
      go_quiet (fail)
      go_wp2_with fail
      go_roundg (gk - 1)
      case measure => have := HG.out; omega
      case rel => exact ⟨i + 1, by go_num, by have := HG.out; omega, HB.out.trans (below_drewN _ _ _)⟩
    · go_wp2_with fail
      go_ret
      exact ⟨rfl, HB.out⟩

def seenOf (ys : List Int) : List Bool := (List.range 9).map fun k => decide (k ∈ ys.map Int.natAbs)
theorem seen_get (ys : List Int) {k : Nat} (hk : k < 9) : (seenOf ys)[k]? = some (decide (k ∈ ys.map Int.natAbs)) := by
  unfold seenOf
  rw [List.getElem?_map, List.getElem?_range hk]
  rfl
theorem seen_set (ys : List Int) {x : Int} (hk : x.natAbs < 9) : (seenOf ys).set x.natAbs true = seenOf (ys ++ [x]) := by
  refine List.ext_getElem? fun j => ?_
  rw [List.getElem?_set]
  have hl : (seenOf ys).length = 9 := by simp [seenOf]
  by_cases h9 : j < 9
  · rw [seen_get _ h9, seen_get _ h9]
    by_cases e : x.natAbs = j
    · rw [if_pos e, if_pos (by omega)]
      simp [e]
    · rw [if_neg e]
      have e' : ¬ j = x.natAbs := fun h => e h.symm
      simp [e']
  · have hl2 : (seenOf (ys ++ [x])).length = 9 := by simp [seenOf]
    rw [if_neg (by omega), List.getElem?_eq_none (by omega), List.getElem?_eq_none (by omega)]

/-- A test: it tells whether P, and takes memory alone. -/
def BPost (w : World) (P : Prop) (e : Ending) (w' : World) : Prop := ∃ b, e = .returned (.bool b) ∧ Below w.heap.size w w' ∧ (b = true ↔ P)

set_option maxRecDepth 100000 in
set_option maxHeartbeats 1000000 in
theorem lits_any {w : World} {v : Value} {xs : List Int} (h : RowIn w v xs) :
    Calls Try.prog 9 #[v] w (BPost w (ClsOk xs)) := by
  obtain ⟨A, C, rfl, hC1, hC2, _, hI, hcell⟩ := h
  have HC := Lib.hid hcell
  have HI := Lib.hid hI
  have hlen : xs.length ≤ 9223372036854775807 := by unfold maxLen at hC2; omega
  clear hcell hI
  go_enter Try.func9, Try.ntmps9
  go_wp2_with fail
  have hrow : Row (w.alloc (.cells #[.bool false, .bool false, .bool false, .bool false, .bool false, .bool false, .bool false, .bool false, .bool false] 41)) w.heap.size 41 ((seenOf []).map Value.bool) := Row.new w 41 _
  have hb : Below w.heap.size w (w.alloc (.cells #[.bool false, .bool false, .bool false, .bool false, .bool false, .bool false, .bool false, .bool false, .bool false] 41)) := (Below.refl _ _).alloc (Nat.le_refl _) _
  obtain ⟨g, hg⟩ : ∃ g, g = w.heap.size := ⟨_, rfl⟩
  rw [← hg] at hrow
  have HRow := Lib.hid hrow
  have HB := Lib.hid hb
  have HG0 := Lib.hid hg
  rw [← hg]
  obtain ⟨w1, hw1⟩ : ∃ w1, w1 = w.alloc (.cells #[.bool false, .bool false, .bool false, .bool false, .bool false, .bool false, .bool false, .bool false, .bool false] 41) := ⟨_, rfl⟩
  rw [← hw1] at HRow HB ⊢
  clear hrow hb hg hw1
  go_loopg [9] (xs.length) (fun gk idx wr => ∃ (i : Nat), idx = .int .i64 (i : Int) ∧ i + gk = xs.length ∧ Row wr g 41 ((seenOf (xs.take i)).map Value.bool) ∧ Below w.heap.size w wr ∧ (∀ x ∈ xs.take i, LitOk x) ∧ ((xs.take i).map Int.natAbs).Nodup)
  case atStart => exact ⟨0, rfl, by omega, HRow.out, HB.out, by simp, by simp⟩
  case round =>
    obtain ⟨i, rfl, hgk, hr, hb, hL, hN⟩ := hrel
    have HG := Lib.hid hgk
    have HR := Lib.hid hr
    have HBl := Lib.hid hb
    have HL := Lib.hid hL
    have HN := Lib.hid hN
    clear hgk hr hb hL hN HRow HB
    by_cases hlt : i < xs.length
    · obtain ⟨x, hx⟩ : ∃ x, xs[i]? = some x := ⟨_, List.getElem?_eq_getElem hlt⟩
      obtain ⟨b1, o1, rfl, c1⟩ := HC.out i x hx
      have d1 := HBl.out.cell (cell_lt c1)
      rw [c1] at d1
      have hxm := List.mem_of_getElem? hx
      have hno : ¬ LitOk x → (false = true ↔ ClsOk xs) := fun h => ⟨(fun e => by cases e), fun h2 => absurd (h2.rng x hxm) h⟩
      have HNo := Lib.hid hno
      have HX := Lib.hid hx
      clear c1 hx hno
      by_cases hx0 : x = 0
      · have hx0b : (x == 0) = true := by simpa using hx0
        go_wp2_with fail
        go_ret
        exact ⟨false, rfl, HBl.out, HNo.out (fun h => h.1 hx0)⟩
      · have hx0b : (x == 0) = false := by simpa using hx0
        by_cases hx8 : 8 < x
        · go_wp2_with fail
          go_ret
          exact ⟨false, rfl, HBl.out, HNo.out (fun h => by have := h.2.2; omega)⟩
        · by_cases hxm8 : x < -8
          · go_wp2_with fail
            go_ret
            exact ⟨false, rfl, HBl.out, HNo.out (fun h => by have := h.2.1; omega)⟩
          · have hk9 : x.natAbs < 9 := by omega
            have hLx : LitOk x := ⟨hx0, by omega, by omega⟩
            have cs := HR.out.cell (i := x.natAbs) (by rw [List.getElem?_map, seen_get _ hk9]; rfl)
            have fs := HR.out.frozen x.natAbs
            have hset : Row (wr.setCell ⟨g, x.natAbs, none⟩ (.bool true)) g 41 ((seenOf (xs.take (i + 1))).map Value.bool) := by
              have := HR.out.set x.natAbs (.bool true)
              rw [← List.map_set, seen_set _ hk9] at this
              rw [List.take_succ_eq_append_getElem hlt, (List.getElem?_eq_some_iff.1 HX.out).2]
              exact this
            have hbs : Below w.heap.size w (wr.setCell ⟨g, x.natAbs, none⟩ (.bool true)) := HBl.out.setCell (by show w.heap.size ≤ g; rw [HG0.out]; exact Nat.le_refl _) _
            have HS := Lib.hid hset
            have HBS := Lib.hid hbs
            have hmem : x.natAbs ∈ (xs.take i).map Int.natAbs ∨ ¬ x.natAbs ∈ (xs.take i).map Int.natAbs := Classical.em _
            have hnd : ¬ x.natAbs ∈ (xs.take i).map Int.natAbs → (∀ y ∈ xs.take (i + 1), LitOk y) ∧ ((xs.take (i + 1)).map Int.natAbs).Nodup := fun h => by
              refine ⟨fun y hy => (mem_take_succ HX.out hy).elim (HL.out y) (fun e => by rw [e]; exact hLx), ?_⟩
              rw [List.take_succ_eq_append_getElem hlt, (List.getElem?_eq_some_iff.1 HX.out).2, List.map_append, List.nodup_append]
              exact ⟨HN.out, by simp, fun a ha b hb e => by simp at hb; rw [e, hb] at ha; exact h ha⟩
            have HND := Lib.hid hnd
            have hdup : x.natAbs ∈ (xs.take i).map Int.natAbs → ¬ ClsOk xs := fun h hc => by
              obtain ⟨y, hy, e⟩ := List.mem_map.1 h
              obtain ⟨j, hj, e2⟩ := List.getElem_of_mem hy
              rw [List.getElem_take] at e2
              have hji : j < i := by rw [List.length_take] at hj; omega
              have nd := List.pairwise_iff_getElem.1 hc.dv j i (by simp; omega) (by simpa using hlt) hji
              simp only [List.getElem_map] at nd
              rw [e2, (List.getElem?_eq_some_iff.1 HX.out).2] at nd
              exact nd e
            have HDup := Lib.hid hdup
            clear hset hbs hnd hdup hLx
            obtain ⟨k, hk⟩ : ∃ k, k = x.natAbs := ⟨_, rfl⟩
            have hof : ∀ w : World, Calls Try.prog 16 #[.int .i64 x] w fun e w' => e = .returned (.int .i64 (k : Int)) ∧ w = w' := fun w => by rw [hk]; exact of_any x w (by omega) (by omega)
            rw [← hk] at HS HBS HND HDup cs fs hmem hk9
            have HOf := Lib.hid hof
            clear hk hof
            go_wp2_with fail
            refine (HOf.out _).mono ?_
            rintro e w' ⟨rfl, rfl⟩
            have hk9' : (k : Int) < 9 := by omega
            rcases hmem with hm | hm
            · have hd : decide (k ∈ (xs.take i).map Int.natAbs) = true := by simpa using hm
              rw [hd] at cs
              have HM := Lib.hid hm
              clear hm hd
              go_wp2_with fail
              go_ret
              exact ⟨false, rfl, HBl.out, ⟨(fun e => by cases e), fun h => absurd h (HDup.out HM.out)⟩⟩
            · have hd : decide (k ∈ (xs.take i).map Int.natAbs) = false := by simpa using hm
              rw [hd] at cs
              have HM := Lib.hid hm
              clear hm hd
              go_wp2_with fail
              refine (HOf.out _).mono ?_
              rintro e w' ⟨rfl, rfl⟩
              go_wp2_with fail
              go_roundg (gk - 1)
              case measure => have := HG.out; omega
              case rel => exact ⟨i + 1, by go_num, by have := HG.out; omega, HS.out, HBS.out, HND.out HM.out⟩
    · go_wp2_with fail
      go_ret
      have h1 := HL.out
      have h2 := HN.out
      rw [List.take_of_length_le (by omega)] at h1 h2
      refine ⟨_, rfl, HBl.out, ?_⟩
      rw [decide_eq_true_iff]
      exact ⟨fun h => ⟨List.length_pos_iff.1 h, h1, h2⟩, fun h => List.length_pos_iff.2 h.ne⟩
end Go.Proofs.Ytiimddkopiknpaa
