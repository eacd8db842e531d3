/- The second law's side: True, Sum, Holds, AllHold. -/
import Derived.Test.YtiimddkopiknpaaFnp
namespace Go.Proofs.Ytiimddkopiknpaa
open Go.RowKit
attribute [local go_sem ↓] Go.wp_at_zero Go.wp_at_succ

/-- A value is a slice of eight truth values. -/
def BlsIn (w : World) (v : Value) (bs : List Bool) : Prop :=
  bs.length = 8 ∧ ∃ g cap, v = .slice (some ⟨g, 0, none⟩) 8 cap ∧ ∀ j b, bs[j]? = some b → w.cell? ⟨g, j, none⟩ = some (.bool b)
theorem BlsIn.below {w w' : World} {v : Value} {bs : List Bool} (h : BlsIn w v bs) (hb : Below w.heap.size w w') : BlsIn w' v bs :=
  let ⟨h0, g, cap, e, h1⟩ := h
  ⟨h0, g, cap, e, fun j b hj => by rw [hb.cell (cell_lt (h1 j b hj))]; exact h1 j b hj⟩

def tv (bs : List Bool) (x : Int) : Bool := bs.getD (x.natAbs - 1) false == decide (0 < x)

set_option maxRecDepth 100000 in
set_option maxHeartbeats 1000000 in
theorem true_any {w : World} {v : Value} {bs : List Bool} {x : Int} (hx : LitOk x) (h : BlsIn w v bs) :
    Calls Try.prog 15 #[.int .i64 x, v] w fun e w' => e = .returned (.bool (tv bs x)) ∧ w = w' := by
  obtain ⟨h8, g, cap, rfl, hc⟩ := h
  obtain ⟨p, hp⟩ : ∃ p : Nat, x.natAbs = p + 1 := ⟨x.natAbs - 1, by have := hx.1; omega⟩
  have hp8 : p < 8 := by have := hx.2; omega
  have hof : ∀ w : World, Calls Try.prog 16 #[.int .i64 x] w fun e w' => e = .returned (.int .i64 ((p : Int) + 1)) ∧ w = w' := fun w => by
    have h1 : (x.natAbs : Int) = (p : Int) + 1 := by omega
    rw [← h1]
    exact of_any x w hx.2.1 hx.2.2
  have c1 : w.cell? ⟨g, p, none⟩ = some (.bool (bs.getD p false)) := hc p _ (by rw [List.getD_eq_getElem?_getD, List.getElem?_eq_getElem (by omega)]; rfl)
  have htv : tv bs x = (bs.getD p false == decide (0 < x)) := by unfold tv; rw [hp]; rfl
  generalize bs.getD p false = b at c1 htv
  rw [htv]
  clear htv hc hp hx
  have v1 : (p : Int) + 1 ≤ 8 := by omega
  have v2 : (p : Int) < 8 := by omega
  have v3 : (0 : Int) ≤ (p : Int) := by omega
  go_enter Try.func15, Try.ntmps15
  go_wp2_with fail
  refine (hof w).mono ?_
  rintro e w' ⟨rfl, rfl⟩
  go_wp2_with fail
  go_ret
  exact ⟨rfl, rfl⟩

/-- So many literals are true. -/
def cnt (bs : List Bool) (xs : List Int) : Nat := xs.countP (tv bs)

set_option maxRecDepth 100000 in
set_option maxHeartbeats 1000000 in
theorem sum_any {w : World} {v rv : Value} {bs : List Bool} {xs : List Int} (hx : ∀ x ∈ xs, LitOk x) (hl : xs.length ≤ 100) (hr : RdIn w rv xs) (h : BlsIn w v bs) :
    Calls Try.prog 36 #[rv, .slice none 0 0, v] w fun e w' => e = .returned (.int .i64 (cnt bs xs : Int)) ∧ w = w' := by
  obtain ⟨A, C, rfl, hcell⟩ := hr
  have HC := Lib.hid hcell
  have HX := Lib.hid hx
  have HB := Lib.hid h
  clear hcell hx h
  go_enter Try.func36, Try.ntmps36
  go_wp2_with fail
  go_loopg [13, 7] (xs.length) (fun gk idx nv wr => ∃ (i n : Nat), idx = .int .i64 (i : Int) ∧ nv = .int .i64 (n : Int) ∧ i + gk = xs.length ∧ w = wr ∧ n = cnt bs (xs.take i) ∧ n ≤ i)
  case atStart => exact ⟨0, 0, rfl, rfl, by omega, rfl, by simp [cnt], by omega⟩
  case round =>
    obtain ⟨i, n, rfl, rfl, hgk, rfl, hn, hni⟩ := hrel
    have HG := Lib.hid hgk
    have HN := Lib.hid hn
    clear hgk hn
    by_cases hlt : i < xs.length
    · obtain ⟨x, hxi⟩ : ∃ x, xs[i]? = some x := ⟨_, List.getElem?_eq_getElem hlt⟩
      obtain ⟨b, o, rfl, c1⟩ := HC.out i x hxi
      have hlo := HX.out x (List.mem_of_getElem? hxi)
      have hnext : cnt bs (xs.take (i + 1)) = cnt bs (xs.take i) + if tv bs x then 1 else 0 := by
        unfold cnt
        rw [List.take_succ_eq_append_getElem hlt, (List.getElem?_eq_some_iff.1 hxi).2, List.countP_append]
        simp [List.countP_cons]
      have hw1 : IntKind.i64.wrap ((n : Int) + 1) = ((n + 1 : Nat) : Int) := by rw [IntWalk.i64_in _ (by omega)]; omega
      have HNx := Lib.hid hnext
      have HLO := Lib.hid hlo
      clear hnext hlo hxi
      go_wp2_with fail
      refine (true_any HLO.out HB.out).mono ?_
      rintro e w' ⟨rfl, rfl⟩
      cases htv : tv bs x
      · go_wp2_with fail
        go_roundg (gk - 1)
        case measure => have := HG.out; omega
        case rel => exact ⟨i + 1, n, by go_num, rfl, by have := HG.out; omega, rfl, by rw [HNx.out, htv, HN.out]; rfl, by omega⟩
      · go_wp2_with fail
        go_roundg (gk - 1)
        case measure => have := HG.out; omega
        case rel => exact ⟨i + 1, n + 1, by go_num, rfl, by have := HG.out; omega, rfl, by rw [HNx.out, htv, HN.out]; rfl, by omega⟩
    · have hn := HN.out
      rw [List.take_of_length_le (by omega)] at hn
      subst hn
      go_wp2_with fail
      go_ret
      exact ⟨rfl, rfl⟩

/-- Some literal is true. -/
def anyT (bs : List Bool) (xs : List Int) : Bool := xs.any (tv bs)
theorem cnt_any (bs : List Bool) (xs : List Int) : decide ((1 : Int) ≤ (cnt bs xs : Int)) = anyT bs xs := by
  have h : 0 < xs.countP (tv bs) ↔ ∃ a ∈ xs, tv bs a = true := List.countP_pos_iff
  unfold anyT cnt
  rw [Bool.eq_iff_iff, decide_eq_true_iff, List.any_eq_true, ← h]
  omega

set_option maxRecDepth 100000 in
set_option maxHeartbeats 1000000 in
theorem holds_any {w : World} {v rv : Value} {bs : List Bool} {xs : List Int} (hx : ∀ x ∈ xs, LitOk x) (hl : xs.length ≤ 100) (hr : RdIn w rv xs) (h : BlsIn w v bs) :
    Calls Try.prog 29 #[.agg #[rv, .slice none 0 0, .int .i64 1], v] w fun e w' => e = .returned (.bool (anyT bs xs)) ∧ Below w.heap.size w w' := by
  have hr0 := hr
  obtain ⟨A, C, rfl, _⟩ := hr0
  obtain ⟨h8, g, cap, hv, hcb⟩ := h
  have hbl : BlsIn w v bs := ⟨h8, g, cap, hv, hcb⟩
  subst hv
  have hb1 : Below w.heap.size w (w.alloc (.cells #[.slice A xs.length C, .slice none 0 0, .int .i64 1] 36)) := (Below.refl _ _).alloc (Nat.le_refl _) _
  have hsum : ∀ n : Nat, Calls Try.prog 36 #[.slice A xs.length C, .slice none 0 0, .slice (some ⟨g, 0, none⟩) 8 cap] ((w.alloc (.cells #[.slice A xs.length C, .slice none 0 0, .int .i64 1] 36)).drewN n)
      fun e w' => e = .returned (.int .i64 (cnt bs xs : Int)) ∧ w' = (w.alloc (.cells #[.slice A xs.length C, .slice none 0 0, .int .i64 1] 36)).drewN n := fun n =>
    (sum_any hx hl ((hr.below hb1).below (below_drewN _ _ n)) ((hbl.below hb1).below (below_drewN _ _ n))).mono fun _ _ h => ⟨h.1, h.2.symm⟩
  have HB1 := Lib.hid hb1
  have HS := Lib.hid hsum
  have hrow := Row.new w 36 [.slice A xs.length C, .slice none 0 0, .int .i64 1]
  have d0 := hrow.cell (i := 0) rfl
  have d1 := hrow.cell (i := 1) rfl
  have d2 := hrow.cell (i := 2) rfl
  clear hrow hb1 hsum hx hr hbl hcb
  have hca := cnt_any bs xs
  have HCA := Lib.hid hca
  clear hca
  generalize cnt bs xs = k at HS HCA
  go_enter Try.func29, Try.ntmps29
  go_wp2_with fail
  go_quiet ((go_at_call 36; exact Calls.quiet_of_same (HS.out _)))
  go_wp2_with fail
  go_ret
  refine ⟨?_, HB1.out.trans (below_drewN _ _ _)⟩
  rw [← HCA.out]
  rfl
end Go.Proofs.Ytiimddkopiknpaa
