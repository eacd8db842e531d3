/- The second law's side: Values, Clauses, Models. -/
import Derived.Test.YtiimddkopiknpaaSouB
namespace Go.Proofs.Ytiimddkopiknpaa
open Go.RowKit
attribute [local go_sem ↓] Go.wp_at_zero Go.wp_at_succ

theorem own_bls {w : World} {B : Nat} {v : Value} {bs : List Bool} (h : w.ownsRow B 4 1 v 8 (bs.map Value.bool)) : BlsIn w v bs := by
  have h' := h
  rcases h'.2 with ⟨_, h0⟩ | ⟨g, cap, cur, e, _⟩
  · cases h0
  · refine ⟨by have := h.1; simpa using this, g, cap, e, fun j b hj => ?_⟩
    obtain ⟨g', cap', e', h2, _⟩ := own_cell h (i := j) (u := .bool b) (by simp [hj])
    rw [e] at e'
    injection e' with e' _ _
    injection e' with e'
    injection e' with e'
    subst e'
    exact h2

set_option maxRecDepth 100000 in
set_option maxHeartbeats 1000000 in
theorem vals_any {w : World} {n : Nat} :
    Calls Try.prog 20 #[.int .i64 (n : Int), .int .i64 8] w fun e w' => (∃ (v : Value) (bs : List Bool), e = .returned v ∧ w'.ownsRow w.heap.size 4 1 v 8 (bs.map Value.bool)) ∧ Below w.heap.size w w' := by
  go_enter Try.func20, Try.ntmps20
  go_wp2_with fail
  have hown : (w.alloc (.cells #[] 4)).ownsRow w.heap.size 4 1 (.slice (some ⟨w.heap.size, 0, none⟩) 0 0) 0 [] := World.ownsRow_lit w #[] 0 (Nat.le_refl _) (by unfold maxLen; omega) rfl
  have hb1 : Below w.heap.size w (w.alloc (.cells #[] 4)) := (Below.refl _ _).alloc (Nat.le_refl _) _
  have HO := Lib.hid hown
  have HB := Lib.hid hb1
  clear hown hb1
  go_loopg [9, 5] 8 (fun gk idx vv wr => ∃ (i : Nat) (v : Value) (bs : List Bool), idx = .int .i64 (i : Int) ∧ v = vv ∧ i + gk = 8 ∧ Below w.heap.size w wr ∧ bs.length = i ∧ wr.ownsRow w.heap.size 4 1 v i (bs.map Value.bool))
  case atStart => exact ⟨0, _, [], rfl, rfl, rfl, HB.out, rfl, HO.out⟩
  case round =>
    obtain ⟨i, v, bs, rfl, rfl, hgk, hb, hbl, hown⟩ := hrel
    clear HO HB
    have HG := Lib.hid hgk
    have HB := Lib.hid hb
    have hbt : w.heap.size ≤ wr.heap.size := hb.size
    have HO := Lib.hid hown
    clear hgk hb
    by_cases hlt : i < 8
    · obtain ⟨i0, hi, hz0, hz1, hz2⟩ := info_parts Try.info4
      have hi0 : (0 : Int) ≤ (i : Int) := by omega
      have hi8 : (i : Int) < 8 := by omega
      have hown := HO.out
      obtain ⟨b, hbb⟩ : ∃ b, b = (bits BinOp.and IntKind.i64 ((n : Int) / 2 ^ i) 1 == 1) := ⟨_, rfl⟩
      have HBB := Lib.hid hbb
      clear hbb
      go_wp2_with (at_builtin; rw [← HBB.out]; refine wpList_append_lies _ rfl _ _ 39 rfl w.heap.size 4 i0 (.bool false) 1 1 Try.underlying39 hi hz0 hz1 hz2 rfl (by decide) _ _ _ rfl (hown.alloc _) ⟨wr.heap.size, 0, none⟩ 1 1 [.bool b] rfl rfl ?c1 ?c2 (by decide) ?c3 ?c4 ?c5 _ rfl ?_)
      case c1 =>
        intro j u hj
        match j, hj with
        | 0, hj => simp at hj; subst hj; simp [Addr.add]
      case c2 => intro u hu; simp at hu; subst hu; rfl
      case c3 => unfold maxLen; omega
      case c4 => omega
      case c5 => simp; omega
      intro g' cap' w4 hown' hgrow _ _
      have hB4 : Below w.heap.size w w4 := (HB.out.grown (World.grownBy_alloc wr _ none) hbt (fun _ h => by cases h)).grown hgrow (Nat.le_trans hbt (World.grownBy_alloc wr _ none).size) (own_le hown (Nat.le_refl _))
      have HN := Lib.hid hown'
      have HN2 := Lib.hid hB4
      clear hown' hgrow hB4 hown hi hz0 hz1 hz2
      go_wp2_with fail
      go_roundg (gk - 1)
      case measure => have := HG.out; omega
      case rel => exact ⟨i + 1, _, bs ++ [b], by go_num, rfl, by have := HG.out; omega, HN2.out, by simp [hbl], by rw [List.map_append]; exact HN.out⟩
    · have hi8 : i = 8 := by have := HG.out; omega
      subst hi8
      clear hown
      go_wp2_with fail
      go_ret
      exact ⟨⟨_, bs, rfl, HO.out⟩, HB.out⟩

theorem con_len (rvs : List Value) : (rvs.flatMap con).length = rvs.length * 3 := by
  induction rvs with
  | nil => rfl
  | cons a l ih => simp only [List.flatMap_cons, List.length_append, ih, con, List.length_cons, List.length_nil]; omega
theorem own_below {w w' : World} {B : Nat} {e : TypeId} {size n : Nat} {v : Value} {xs : List Value} (h : w.ownsRow B e size v n xs) (hb : Below w.heap.size w w') : w'.ownsRow B e size v n xs := by
  refine ⟨h.1, h.2.imp id fun ⟨g, cap, cur, e, a1, a2, a3⟩ => ⟨g, cap, cur, e, a1, ?_, a3⟩⟩
  rw [hb.block g (Array.getElem?_eq_some_iff.1 a2).1]
  exact a2

/-- A constraint is appended. -/
theorem con_push {B : Nat} {ls : List (List Int)} {rvs : List Value} {v v' rv : Value} {c : List Int} {w w4 : World} {o : Obj} (h1 : w.ownsRow B 36 3 v ls.length (rvs.flatMap con)) (h2 : ∀ (j : Nat) (c : List Int), ls[j]? = some c → ∃ rv, rvs[j]? = some rv ∧ RdB w B rv c)
    (hrd : RdB w B rv c) (hg : (w.alloc o).grownBy w4 v.ownBlock) (hown : w4.ownsRow B 36 3 v' (ls.length + 1) (rvs.flatMap con ++ con rv)) : ConR B (ls ++ [c]) v' w4 := by
  have hc := Chg.ofOwn (h1.alloc o) hg
  have hrl : rvs.length = ls.length := by have := h1.1; rw [con_len] at this; omega
  have hup : ∀ {u : Value} {d : List Int}, RdB w B u d → RdB w4 B u d := fun hu =>
    (hu.grow (Chg.none_of (World.grownBy_alloc w o none) 36) (fun _ h => by cases h)).grow hc (own_le h1 (Nat.le_refl _))
  refine ⟨rvs ++ [rv], by simpa [con] using hown, fun j d hj => ?_⟩
  by_cases e : j < ls.length
  · rw [List.getElem?_append_left e] at hj
    obtain ⟨u, e1, e2⟩ := h2 j d hj
    exact ⟨u, by rw [List.getElem?_append_left (by omega)]; exact e1, hup e2⟩
  · have hlt := (List.getElem?_eq_some_iff.1 hj).1
    simp only [List.length_append, List.length_cons, List.length_nil] at hlt
    have hje : j = ls.length := by omega
    subst hje
    rw [List.getElem?_append_right (Nat.le_refl _)] at hj
    simp at hj
    subst hj
    exact ⟨rv, by rw [List.getElem?_append_right (by omega)]; simp [hrl], hup hrd⟩

theorem Try.info36 : (Try.prog.info? 36).map (fun i => (i.zero, i.size, i.bytes)) = some (some (.agg #[.slice none 0 0, .slice none 0 0, .int .i64 0]), 3, 56) := by kernel_rfl

theorem RowIn.rdb {w w' : World} {v : Value} {xs : List Int} (h : RowIn w v xs) (hb : Below w.heap.size w w') : RdB w' w.heap.size v xs := by
  obtain ⟨A, C, e, _, _, _, _, h5⟩ := h
  refine ⟨A, C, e, fun j x hx => ?_⟩
  obtain ⟨b, o, e1, e2⟩ := h5 j x hx
  exact ⟨b, o, e1, by rw [hb.cell (cell_lt e2)]; exact e2, .inl (cell_lt e2)⟩

theorem take_snoc {α : Type} {l : List α} {i : Nat} {x : α} (h : l[i]? = some x) : l.take (i + 1) = l.take i ++ [x] := by
  rw [List.take_succ_eq_append_getElem (List.getElem?_eq_some_iff.1 h).1, (List.getElem?_eq_some_iff.1 h).2]

set_option maxRecDepth 100000 in
set_option maxHeartbeats 1000000 in
theorem cla_any {w : World} {v : Value} {cs : List (List Int)} (hin : MatIn w v cs) (hlen : cs.length ≤ 20) :
    Calls Try.prog 13 #[v] w fun e w' => (∃ u, e = .returned u ∧ ConR w.heap.size cs u w') ∧ Below w.heap.size w w' := by
  obtain ⟨A, C, rfl, hC1, hC2, _, hcell⟩ := hin
  have HC := Lib.hid hcell
  clear hcell
  have hown : (w.alloc (.cells #[] 36)).ownsRow w.heap.size 36 3 (.slice (some ⟨w.heap.size, 0, none⟩) 0 0) 0 [] := World.ownsRow_lit w #[] 0 (Nat.le_refl _) (by unfold maxLen; omega) rfl
  have hb1 : Below w.heap.size w (w.alloc (.cells #[] 36)) := (Below.refl _ _).alloc (Nat.le_refl _) _
  have HO := Lib.hid hown
  have HB := Lib.hid hb1
  clear hown hb1
  go_enter Try.func13, Try.ntmps13
  go_wp2_with fail
  go_loopg [9, 3] (cs.length) (fun gk idx vv wr => ∃ (i : Nat) (v : Value), idx = .int .i64 (i : Int) ∧ v = vv ∧ i + gk = cs.length ∧ Below w.heap.size w wr ∧ ConR w.heap.size (cs.take i) v wr)
  case atStart => exact ⟨0, _, rfl, rfl, by omega, HB.out, [], HO.out, fun j c hc => by simp at hc⟩
  case round =>
    obtain ⟨i, v, rfl, rfl, hgk, hb, hcon⟩ := hrel
    clear HO HB
    have HG := Lib.hid hgk
    have HB := Lib.hid hb
    have hbt : w.heap.size ≤ wr.heap.size := hb.size
    clear hgk hb
    by_cases hlt : i < cs.length
    · obtain ⟨c, hc⟩ : ∃ c, cs[i]? = some c := ⟨_, List.getElem?_eq_getElem hlt⟩
      obtain ⟨b, o, rv, rfl, c1, hrv⟩ := HC.out i c hc
      have d1 := HB.out.cell (cell_lt c1)
      rw [c1] at d1
      have hrd := hrv.rdb HB.out
      obtain ⟨A2, C2, rfl, _⟩ := hrv
      obtain ⟨rvs, hown, hrows⟩ := hcon
      have htl : (cs.take i).length = i := by rw [List.length_take]; omega
      obtain ⟨i0, hi, hz0, hz1, hz2⟩ := info_parts Try.info36
      have hown2 := hown
      rw [htl] at hown2
      have HOwn := Lib.hid hown
      have HRows := Lib.hid hrows
      have HRd := Lib.hid hrd
      have HCi := Lib.hid hc
      have HTl := Lib.hid htl
      clear c1 hown hrows hrd hc htl
      go_wp2_with (at_builtin; refine wpList_append_lies _ rfl _ _ 33 rfl w.heap.size 36 i0 (.agg #[.slice none 0 0, .slice none 0 0, .int .i64 0]) 3 56 Try.underlying33 hi hz0 hz1 hz2 rfl (by decide) _ _ _ rfl (hown2.alloc _) ⟨wr.heap.size, 0, none⟩ 1 1 (con (.slice A2 c.length C2)) rfl rfl ?c1 ?c2 (by decide) ?c3 ?c4 ?c5 _ rfl ?_)
      case c1 =>
        intro j u hj
        rw [addP, Nat.zero_add]
        exact (Row.new wr 36 (con (.slice A2 c.length C2))).cell hj
      case c2 =>
        intro u hu
        simp only [con, List.mem_cons, List.not_mem_nil, or_false] at hu
        rcases hu with rfl | rfl | rfl <;> rfl
      case c3 => unfold maxLen; omega
      case c4 => omega
      case c5 => simp; omega
      intro g' cap' w4 hown' hgrow _ _
      have hB4 : Below w.heap.size w w4 := (HB.out.grown (World.grownBy_alloc wr _ none) hbt (fun _ h => by cases h)).grown hgrow (Nat.le_trans hbt (World.grownBy_alloc wr _ none).size) (own_le hown2 (Nat.le_refl _))
      have hfin : ConR w.heap.size (cs.take (i + 1)) (.slice (some ⟨g', 0, none⟩) (i + 1) cap') w4 := by
        rw [take_snoc HCi.out]
        exact con_push HOwn.out HRows.out HRd.out hgrow (by rw [HTl.out]; exact hown')
      have HF := Lib.hid hfin
      have HN2 := Lib.hid hB4
      clear hown' hgrow hB4 hfin hown2 hi hz0 hz1 hz2 d1
      go_wp2_with fail
      go_roundg (gk - 1)
      case measure => have := HG.out; omega
      case rel => exact ⟨i + 1, _, by go_num, rfl, by have := HG.out; omega, HN2.out, HF.out⟩
    · rw [List.take_of_length_le (by omega)] at hcon
      have HF := Lib.hid hcon
      clear hcon
      go_wp2_with fail
      go_ret
      exact ⟨⟨_, rfl, HF.out⟩, HB.out⟩
end Go.Proofs.Ytiimddkopiknpaa
