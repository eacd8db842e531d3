/- The second law's side: AllHold over a list of constraints. -/
import Derived.Test.YtiimddkopiknpaaSouA
namespace Go.Proofs.Ytiimddkopiknpaa
open Go.RowKit
attribute [local go_sem ↓] Go.wp_at_zero Go.wp_at_succ

def con (rv : Value) : List Value := [rv, .slice none 0 0, .int .i64 1]
/-- A value reads as the numbers c; what is read lies below B or is a row of numbers. -/
def RdB (w : World) (B : Nat) (v : Value) (xs : List Int) : Prop :=
  ∃ (A : Option Addr) (C : Nat), v = .slice A xs.length C ∧ ∀ j x, xs[j]? = some x → ∃ b o, A = some ⟨b, o, none⟩ ∧ w.cell? ⟨b, o + j, none⟩ = some (.int .i64 x) ∧ (b < B ∨ ∃ cs, Row w b 3 cs)
theorem RdB.rd {w : World} {B : Nat} {v : Value} {xs : List Int} (h : RdB w B v xs) : RdIn w v xs :=
  let ⟨A, C, e, h1⟩ := h
  ⟨A, C, e, fun j x hx => let ⟨b, o, e1, e2, _⟩ := h1 j x hx; ⟨b, o, e1, e2⟩⟩
theorem RdB.grow {w w' : World} {B : Nat} {v : Value} {xs : List Int} {row : Option Nat} (h : RdB w B v xs) (hc : Chg w w' row 36) (hr : ∀ k, row = some k → B ≤ k) : RdB w' B v xs := by
  obtain ⟨A, C, e, h1⟩ := h
  refine ⟨A, C, e, fun j x hx => ?_⟩
  obtain ⟨b, o, e1, e2, h3⟩ := h1 j x hx
  refine ⟨b, o, e1, ?_, h3.imp id fun ⟨cs, r⟩ => ⟨cs, hc.row r (by decide)⟩⟩
  have hne : row ≠ some b := fun hh => by
    rcases h3 with h3 | ⟨cs, r⟩
    · have := hr b hh; omega
    · obtain ⟨c', r'⟩ := hc.old b hh
      exact r.ne r' (by decide) rfl
  have := hc.hg.block b (cell_lt e2) (fun h => hne h.symm)
  rw [World.cell?_of_block (w := w) this]
  exact e2

/-- Constraints in memory: some literal of each of ls. -/
def ConR (B : Nat) (ls : List (List Int)) (v : Value) (w : World) : Prop :=
  ∃ rvs : List Value, w.ownsRow B 36 3 v ls.length (rvs.flatMap con) ∧ ∀ (j : Nat) (c : List Int), ls[j]? = some c → ∃ rv, rvs[j]? = some rv ∧ RdB w B rv c

theorem con_get (rvs : List Value) (j : Nat) (rv : Value) (h : rvs[j]? = some rv) :
    (rvs.flatMap con)[j * 3]? = some rv ∧ (rvs.flatMap con)[j * 3 + 1]? = some (.slice none 0 0) ∧ (rvs.flatMap con)[j * 3 + 2]? = some (.int .i64 1) := by
  induction rvs generalizing j with
  | nil => simp at h
  | cons a l ih =>
    cases j with
    | zero => simp at h; subst h; simp [con]
    | succ j =>
      have := ih j (by simpa using h)
      simp only [List.flatMap_cons, con, List.cons_append, List.nil_append] at *
      rw [show (j + 1) * 3 = j * 3 + 1 + 1 + 1 from by omega]
      simpa using this

/-- What is read of a constraint. -/
theorem ConR.at {B : Nat} {ls : List (List Int)} {v : Value} {w : World} (h : ConR B ls v w) : (ls = [] ∧ ∃ A C, v = .slice A 0 C) ∨ ∃ g cap, v = .slice (some ⟨g, 0, none⟩) ls.length cap ∧
    ∀ (j : Nat) (c : List Int), ls[j]? = some c → ∃ rv, w.cell? ⟨g, j * 3, none⟩ = some rv ∧ w.cell? ⟨g, j * 3 + 1, none⟩ = some (.slice none 0 0) ∧ w.cell? ⟨g, j * 3 + 2, none⟩ = some (.int .i64 1) ∧ RdIn w rv c := by
  obtain ⟨rvs, h1, h2⟩ := h
  have h1' := h1
  rcases h1'.2 with ⟨e, h0⟩ | ⟨g, cap, cur, e, _⟩
  · exact .inl ⟨List.length_eq_zero_iff.1 h0, none, 0, e⟩
  · refine .inr ⟨g, cap, e, fun j c hc => ?_⟩
    obtain ⟨rv, e1, e2⟩ := h2 j c hc
    obtain ⟨c0, c1, c2⟩ := con_get rvs j rv e1
    have hcell : ∀ (i : Nat) (u : Value), (rvs.flatMap con)[i]? = some u → w.cell? ⟨g, i, none⟩ = some u := fun i u hu => by
      obtain ⟨g', cap', e', h3, _⟩ := own_cell h1 hu
      rw [e] at e'
      injection e' with e' _ _
      injection e' with e'
      injection e' with e'
      subst e'
      exact h3
    exact ⟨rv, hcell _ _ c0, hcell _ _ c1, hcell _ _ c2, e2.rd⟩

set_option maxRecDepth 100000 in
set_option maxHeartbeats 1000000 in
theorem fn_any {w : World} {fb : Nat} {rv bv : Value} {bs : List Bool} {xs : List Int} (hx : ClsOk xs) (hr : RdIn w rv xs) (hf : w.cell? ⟨fb, 0, none⟩ = some bv) (hb : BlsIn w bv bs) :
    Calls Try.prog 28 #[.agg #[rv, .slice none 0 0, .int .i64 1], .pointer (some ⟨fb, 0, none⟩)] w fun e w' => e = .returned (.bool (!anyT bs xs)) ∧ Below w.heap.size w w' := by
  have h8 := cls_len hx.dv hx.rng
  have hb1 : Below w.heap.size w (w.alloc (.cells #[rv, .slice none 0 0, .int .i64 1] 36)) := (Below.refl _ _).alloc (Nat.le_refl _) _
  have hf1 := hb1.cell (cell_lt hf)
  rw [hf] at hf1
  have hrow := Row.new w 36 [rv, .slice none 0 0, .int .i64 1]
  have hh := holds_any hx.rng (by omega) (hr.below hb1) (hb.below hb1)
  obtain ⟨A, C, hrv, _⟩ := hr
  obtain ⟨_, g, cap, hbv, _⟩ := hb
  subst hrv hbv
  have d0 := hrow.cell (i := 0) rfl
  have d1 := hrow.cell (i := 1) rfl
  have d2 := hrow.cell (i := 2) rfl
  have HB1 := Lib.hid hb1
  have HH := Lib.hid hh
  clear hrow hh hb1 hf hx
  go_enter Try.func28, Try.ntmps28
  go_wp2_with fail
  refine HH.out.mono ?_
  rintro e w' ⟨rfl, hb2⟩
  have HB2 := Lib.hid (HB1.out.trans (hb2.mono HB1.out.size))
  clear hb2 HH d0 d1 d2 hf1
  go_wp2_with fail
  go_ret
  exact ⟨rfl, HB2.out⟩

set_option maxRecDepth 100000 in
set_option maxHeartbeats 1000000 in
theorem idx_any {w : World} {B fb : Nat} {v bv : Value} {bs : List Bool} {ls : List (List Int)} (hl : ls.length ≤ 100) (hne : ls ≠ []) (hx : ∀ c ∈ ls, ClsOk c) (h : ConR B ls v w) (hf : w.cell? ⟨fb, 0, none⟩ = some bv) (hb : BlsIn w bv bs) :
    Calls Try.prog 35 #[v, .func (.func 28) #[] #[.pointer (some ⟨fb, 0, none⟩)]] w fun e w' => (∃ k : Int, e = .returned (.int .i64 k) ∧ decide (0 ≤ k) = !(ls.all (anyT bs))) ∧ Below w.heap.size w w' := by
  rcases h.at with ⟨h0, _⟩ | ⟨g, cap, rfl, hcell⟩
  · exact absurd h0 hne
  have HC := Lib.hid hcell
  have HX := Lib.hid hx
  have HF := Lib.hid hf
  have HBl := Lib.hid hb
  clear hcell hx hf hb h hne
  go_enter Try.func35, Try.ntmps35
  go_wp2_with fail
  go_loopg [8] (ls.length) (fun gk idx wr => ∃ (i : Nat), idx = .int .i64 (i : Int) ∧ i + gk = ls.length ∧ Below w.heap.size w wr ∧ ∀ c ∈ ls.take i, anyT bs c = true)
  case atStart => exact ⟨0, rfl, by omega, .refl _ _, by simp⟩
  case round =>
    obtain ⟨i, rfl, hgk, hbel, hall⟩ := hrel
    have HG := Lib.hid hgk
    have HB := Lib.hid hbel
    have HA := Lib.hid hall
    clear hgk hbel hall
    by_cases hlt : i < ls.length
    · obtain ⟨c, hc⟩ : ∃ c, ls[i]? = some c := ⟨_, List.getElem?_eq_getElem hlt⟩
      obtain ⟨rv, c0, c1, c2, hrd⟩ := HC.out i c hc
      have d0 := HB.out.cell (cell_lt c0)
      have d1 := HB.out.cell (cell_lt c1)
      have d2 := HB.out.cell (cell_lt c2)
      rw [c0] at d0
      rw [c1] at d1
      rw [c2] at d2
      have hrd2 := hrd.below HB.out
      have hf2 := HB.out.cell (cell_lt HF.out)
      rw [HF.out] at hf2
      have hcall := fn_any (HX.out c (List.mem_of_getElem? hc)) hrd2 hf2 (HBl.out.below HB.out)
      have HCi := Lib.hid hc
      clear c0 c1 c2 hrd hf2 hc
      obtain ⟨A, C, hrv, _⟩ := hrd2
      subst hrv
      have HCall := Lib.hid hcall
      clear hcall
      go_wp2_with fail
      refine HCall.out.mono ?_
      rintro e w' ⟨rfl, hb2⟩
      have HB2 := Lib.hid (HB.out.trans (hb2.mono HB.out.size))
      clear hb2 HCall d0 d1 d2
      cases hany : anyT bs c
      · have HAny := Lib.hid hany
        clear hany
        go_wp2_with fail
        go_ret
        refine ⟨⟨_, rfl, ?_⟩, HB2.out⟩
        have h1 : ls.all (anyT bs) = false := by
          rw [Bool.eq_false_iff]
          intro hh
          have := List.all_eq_true.1 hh c (List.mem_of_getElem? HCi.out)
          rw [HAny.out] at this
          cases this
        rw [h1]
        simp
      · have HAny := Lib.hid hany
        clear hany
        go_wp2_with fail
        go_roundg (gk - 1)
        case measure => have := HG.out; omega
        case rel => exact ⟨i + 1, by go_num, by have := HG.out; omega, HB2.out, fun d hd => (mem_take_succ HCi.out hd).elim (HA.out d) (fun e => by rw [e]; exact HAny.out)⟩
    · go_wp2_with fail
      go_ret
      refine ⟨⟨-1, rfl, ?_⟩, HB.out⟩
      have h1 := HA.out
      rw [List.take_of_length_le (by omega)] at h1
      rw [List.all_eq_true.2 h1]
      rfl

set_option maxRecDepth 100000 in
theorem cont_any {w : World} {B fb : Nat} {v bv : Value} {bs : List Bool} {ls : List (List Int)} (hl : ls.length ≤ 100) (hne : ls ≠ []) (hx : ∀ c ∈ ls, ClsOk c) (h : ConR B ls v w) (hf : w.cell? ⟨fb, 0, none⟩ = some bv) (hb : BlsIn w bv bs) :
    Calls Try.prog 27 #[v, .func (.func 28) #[] #[.pointer (some ⟨fb, 0, none⟩)]] w fun e w' => e = .returned (.bool (!(ls.all (anyT bs)))) ∧ Below w.heap.size w w' := by
  have hi := idx_any hl hne hx h hf hb
  have HI := Lib.hid hi
  clear hi h hf hb hx
  go_enter Try.func27, Try.ntmps27
  go_wp2_with fail
  refine HI.out.mono ?_
  rintro e w' ⟨⟨k, rfl, hk⟩, hb2⟩
  have HK := Lib.hid hk
  have HB := Lib.hid hb2
  clear hk hb2 HI
  go_wp2_with fail
  go_ret
  refine ⟨?_, HB.out⟩
  rw [← HK.out]
  rfl

theorem ConR.below {w w' : World} {B : Nat} {v : Value} {ls : List (List Int)} (h : ConR B ls v w) (hb : Below w.heap.size w w') : ConR B ls v w' := by
  obtain ⟨rvs, h1, h2⟩ := h
  refine ⟨rvs, ?_, fun j c hc => ?_⟩
  · refine ⟨h1.1, h1.2.imp id fun ⟨g, cap, cur, e, a1, a2, a3⟩ => ⟨g, cap, cur, e, a1, ?_, a3⟩⟩
    rw [hb.block g (Array.getElem?_eq_some_iff.1 a2).1]
    exact a2
  · obtain ⟨rv, e1, A, C, e2, e3⟩ := h2 j c hc
    refine ⟨rv, e1, A, C, e2, fun i x hx => ?_⟩
    obtain ⟨b, o, a1, a2, a3⟩ := e3 i x hx
    exact ⟨b, o, a1, by rw [hb.cell (cell_lt a2)]; exact a2, a3.imp id fun ⟨cs, r⟩ => ⟨cs, r.below hb r.lt⟩⟩

set_option maxRecDepth 100000 in
set_option maxHeartbeats 1000000 in
theorem allHold_any {w : World} {B : Nat} {v bv : Value} {bs : List Bool} {ls : List (List Int)} (hl : ls.length ≤ 100) (hne : ls ≠ []) (hx : ∀ c ∈ ls, ClsOk c) (h : ConR B ls v w) (hb : BlsIn w bv bs) :
    Calls Try.prog 21 #[v, bv] w fun e w' => e = .returned (.bool (ls.all (anyT bs))) ∧ Below w.heap.size w w' := by
  have hb1 : Below w.heap.size w (w.alloc (.cells #[bv] 39)) := (Below.refl _ _).alloc (Nat.le_refl _) _
  have hc := cont_any hl hne hx (h.below hb1) ((Row.new w 39 [bv]).cell (i := 0) rfl) (hb.below hb1)
  obtain ⟨h8, g, cap, hbv, hcb⟩ := hb
  subst hbv
  have HB1 := Lib.hid hb1
  have HC := Lib.hid hc
  clear hb1 hc h hcb hx
  go_enter Try.func21, Try.ntmps21
  go_wp2_with fail
  refine HC.out.mono ?_
  rintro e w' ⟨rfl, hb2⟩
  have HB2 := Lib.hid (HB1.out.trans (hb2.mono HB1.out.size))
  clear hb2 HC
  go_wp2_with fail
  go_ret
  refine ⟨?_, HB2.out⟩
  show Ending.returned (Value.bool _) = _
  simp
end Go.Proofs.Ytiimddkopiknpaa
