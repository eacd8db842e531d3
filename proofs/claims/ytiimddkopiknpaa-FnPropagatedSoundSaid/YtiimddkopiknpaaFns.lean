/- laws.FnPropagatedSound: it returns true at every input. -/
import Derived.Test.YtiimddkopiknpaaFnp
import Derived.Test.YtiimddkopiknpaaPlb
namespace Go.Proofs.Ytiimddkopiknpaa
open Go.RowKit
attribute [local go_sem ↓] Go.wp_at_zero Go.wp_at_succ

/-- What the solver answers. -/
def Ans (B0 : Nat) (w0 : World) (cs : List (List Int)) (ds : List Int) (gv : Value) (bad : Bool) (w : World) : Prop :=
  Below B0 w0 w ∧ ((bad = true ∧ DerBot cs ds) ∨ (bad = false ∧ ∃ m : List Int, RdIn w gv (outTo m 8) ∧ (∀ l, l < 16 → tru m l → Der cs ds l) ∧ (∀ d ∈ ds, tru m (enc d)) ∧ ∀ c ∈ cs.map (·.map enc), Clo m c))
theorem ans_of {B0 : Nat} {w0 w : World} {cs : List (List Int)} {ds : List Int} {e : Ending} (h : ZPost B0 w0 (cs.map (·.map enc)) (Der cs ds) (DerBot cs ds) ds e w) : ∃ gv bad, e = .returned (.tuple #[gv, .bool bad]) ∧ Ans B0 w0 cs ds gv bad w := by
  obtain ⟨hb, ⟨hbo, v, rfl⟩ | ⟨v, m, rfl, hown, _, h1, h2, h3⟩⟩ := h
  · exact ⟨v, true, rfl, hb, .inl ⟨rfl, hbo⟩⟩
  · exact ⟨v, false, rfl, hb, .inr ⟨rfl, m, own_rd hown, h1, h2, h3⟩⟩

theorem own_vals {w : World} {B : Nat} {e : TypeId} {v : Value} {vs : List Value} (h : w.ownsRow B e 1 v vs.length vs) : ∃ (A : Option Addr) (C : Nat), v = .slice A vs.length C ∧ ∀ (j : Nat) (x : Value), vs[j]? = some x → ∃ g, A = some ⟨g, 0, none⟩ ∧ w.cell? ⟨g, j, none⟩ = some x := by
  have h' := h
  rcases h'.2 with ⟨e1, h0⟩ | ⟨g, cap, cur, e1, _⟩
  · exact ⟨none, 0, by rw [e1, h0], fun j x hx => by rw [List.length_eq_zero_iff.1 h0] at hx; simp at hx⟩
  · refine ⟨_, cap, e1, fun j x hx => ?_⟩
    obtain ⟨g', cap', e', h2, _⟩ := own_cell h hx
    rw [e1] at e'
    injection e' with e' _ _
    injection e' with e'
    injection e' with e'
    subst e'
    exact ⟨g, rfl, h2⟩

set_option maxRecDepth 100000 in
set_option maxHeartbeats 1000000 in
theorem fns_any {w : World} {v dv : Value} {cs : List (List Int)} {ds : List Int} (hin : MatIn w v cs) (hds : RowIn w dv ds) :
    Calls Try.prog 4 #[v, dv] w (TPost w) := by
  have HI := Lib.hid hin
  have HD := Lib.hid hds
  obtain ⟨A, C, hdv, hC1, hC2, _, _, hdcell⟩ := hds
  have hdl : ds.length ≤ 9223372036854775807 := by unfold maxLen at hC2; omega
  subst hdv
  have HDC := Lib.hid hdcell
  clear hin hC1 hC2 hdcell
  by_cases hbig : (2147483647 : Int) < (ds.length : Int)
  · go_enter Try.func4, Try.ntmps4
    go_wp2_with fail
    refine (fits_any HI.out).mono ?_
    rintro e w' ⟨b, rfl, rfl⟩
    cases b
    all_goals
      go_wp2_with fail
      go_ret
      exact ⟨rfl, .refl _ _⟩
  go_enter Try.func4, Try.ntmps4
  go_wp2_with fail
  refine (fits_any HI.out).mono ?_
  rintro e w' ⟨b, rfl, rfl⟩
  cases b
  · go_wp2_with fail
    go_ret
    exact ⟨rfl, .refl _ _⟩
  go_wp2_with fail
  refine (sumInts_any HI.out).mono ?_
  rintro e w' ⟨n, rfl, rfl⟩
  have hb1 : Below w.heap.size w (w.alloc (.cells #[.int .i64 n] 3)) := (Below.refl _ _).alloc (Nat.le_refl _) _
  have hc1 : (w.alloc (.cells #[.int .i64 n] 3)).cell? ⟨w.heap.size, 0, none⟩ = some (.int .i64 n) := (Row.new w 3 [.int .i64 n]).cell rfl
  go_wp2_with fail
  refine (beyond_any hc1).mono ?_
  rintro e w' ⟨b, rfl, rfl⟩
  obtain ⟨w1, hw1⟩ : ∃ w1, w1 = w.alloc (.cells #[.int .i64 n] 3) := ⟨_, rfl⟩
  rw [← hw1] at hb1 ⊢
  clear hw1 hc1
  have HB1 := Lib.hid hb1
  clear hb1
  cases b
  rotate_left
  · go_wp2_with fail
    go_ret
    exact ⟨rfl, HB1.out⟩
  go_wp2_with fail
  refine (cnf_any (HI.out.below HB1.out)).mono ?_
  rintro e w2 ⟨b, rfl, hb2, hiff⟩
  have HB2 := Lib.hid (HB1.out.trans (hb2.mono HB1.out.size))
  have HF := Lib.hid hiff
  clear hb2 hiff HB1
  cases b
  · go_wp2_with fail
    go_ret
    exact ⟨rfl, HB2.out⟩
  have hok := HF.out.1 rfl
  have HOK := Lib.hid hok
  clear hok HF
  have hgo : ∀ w3 : World, Below w.heap.size w w3 → (∀ d ∈ ds, LitOk d) → ds.length ≤ 8 →
      Calls Try.prog 10 #[v, .int .i64 8, .slice A ds.length C] w3 (ZPost w3.heap.size w3 (cs.map (·.map enc)) (Der cs ds) (DerBot cs ds) ds) := fun w3 hb hl h8 =>
    imp_mem der_bot HOK.out.ok HOK.out.len (List.length_pos_iff.1 HOK.out.pos) (fun c hc => cls_len (HOK.out.ok c hc).dv (HOK.out.ok c hc).rng) der_rules (HI.out.below hb) (HD.out.below hb) h8 (fun d hd => ⟨hl d hd, .dec hd⟩)
  have HGo := Lib.hid hgo
  clear hgo
  obtain ⟨b0, o0, C0, hv, hcell⟩ := HI.out.full (List.length_pos_iff.1 HOK.out.pos)
  obtain ⟨c0, hc0⟩ : ∃ c, cs[0]? = some c := ⟨_, List.getElem?_eq_getElem HOK.out.pos⟩
  obtain ⟨rv0, hcv0, hrv0⟩ := hcell 0 c0 hc0
  obtain ⟨A0, C00, hrv, _, hC02, _⟩ := hrv0
  subst hv hrv
  have hl0 : c0.length ≤ 9223372036854775807 := by unfold maxLen at hC02; omega
  rw [Nat.add_zero] at hcv0
  have HC0 := Lib.hid hc0
  have HCV0 := Lib.hid hcv0
  have hclen := HOK.out.len
  have hcpos := HOK.out.pos
  clear hcell hc0 hcv0 hC02
  by_cases h0 : 0 < (ds.length : Int)
  · go_wp2_with fail
    refine (lits_any (HD.out.below HB2.out)).mono ?_
    rintro e w3 ⟨b, rfl, hb3, hiff⟩
    have HB3 := Lib.hid (HB2.out.trans (hb3.mono HB2.out.size))
    have HF := Lib.hid hiff
    clear hb3 hiff HB2
    cases b
    · go_wp2_with fail
      go_ret
      exact ⟨rfl, HB3.out⟩
    have hc := HF.out.1 rfl
    have hl := hc.rng
    have hnd := hc.dv
    have h8 := cls_len hc.dv hc.rng
    have HL := Lib.hid hl
    have HND := Lib.hid hnd
    clear hl hc HF hnd
    go_wp2_with fail
    refine (HGo.out _ HB3.out HL.out h8).mono ?_
    rintro e w4 hz
    obtain ⟨gv, bad, rfl, hb4, hans⟩ := ans_of hz
    have HB4 := Lib.hid (HB3.out.trans (hb4.mono HB3.out.size))
    have HAns := Lib.hid hans
    clear hb4 hz hans HB3 HGo
    go_wp2_with fail
    refine (cla_any (HI.out.below HB4.out) hclen).mono ?_
    rintro e w5 ⟨⟨u, rfl, hcon⟩, hb5⟩
    obtain ⟨B, hB⟩ : ∃ B, B = w4.heap.size := ⟨_, rfl⟩
    rw [← hB] at hcon hb5
    have hwB : w.heap.size ≤ B := by rw [hB]; exact HB4.out.size
    have HBe := Lib.hid hB
    have HCon := Lib.hid hcon
    have HB5 := Lib.hid hb5
    clear hcon hb5 hB
    go_wp2_with fail
    go_loopg [49, 7] (ds.length) (fun gk idx uv wr => ∃ (i : Nat) (u : Value), idx = .int .i64 (i : Int) ∧ u = uv ∧ i + gk = ds.length ∧ Below B w4 wr ∧ ConR B (both cs (ds.take i)) u wr)
    case atStart => exact ⟨0, _, rfl, rfl, by omega, HB5.out, by simpa [both] using HCon.out⟩
    case round =>
      obtain ⟨i, u, rfl, rfl, hgk, hb, hcon⟩ := hrel
      clear HCon HB5
      have HG := Lib.hid hgk
      have HB := Lib.hid hb
      clear hgk hb
      have hbw : Below w.heap.size w wr := HB4.out.trans (HB.out.mono hwB)
      have HBW := Lib.hid hbw
      clear hbw
      by_cases hlt : i < ds.length
      · obtain ⟨d, hd⟩ : ∃ d, ds[i]? = some d := ⟨_, List.getElem?_eq_getElem hlt⟩
        obtain ⟨b1, o1, hA, hc1⟩ := HDC.out i d hd
        have d1 := HBW.out.cell (cell_lt hc1)
        rw [hc1] at d1
        subst hA
        obtain ⟨rvs, hown, hrows⟩ := hcon
        obtain ⟨i0, hi, hz0, hz1, hz2⟩ := info_parts Try.info36
        have hbB : B ≤ wr.heap.size := by have := HB.out.size; rw [← HBe.out] at this; exact this
        have hbl : (both cs (ds.take i)).length = cs.length + i := by unfold both; rw [List.length_append, List.length_map, List.length_take]; omega
        have hown2 := (hown.alloc (.cells #[.int .i64 d] 3)).alloc (.cells #[.slice (some ⟨wr.heap.size, 0, none⟩) 1 1, .slice none 0 0, .int .i64 1] 36)
        rw [hbl] at hown2
        have hrd : RdB (wr.alloc (.cells #[.int .i64 d] 3)) B (.slice (some ⟨wr.heap.size, 0, none⟩) 1 1) [d] := by
          refine ⟨_, 1, rfl, fun j x hx => ⟨wr.heap.size, 0, rfl, ?_, .inr ⟨_, Row.new wr 3 [.int .i64 d]⟩⟩⟩
          match j, hx with
          | 0, hx => simp at hx; subst hx; exact (Row.new wr 3 [.int .i64 d]).cell rfl
        have hup := (Chg.none_of (World.grownBy_alloc wr (.cells #[.int .i64 d] 3) none) 36)
        have hrows1 : ∀ (j : Nat) (c : List Int), (both cs (ds.take i))[j]? = some c → ∃ rv, rvs[j]? = some rv ∧ RdB (wr.alloc (.cells #[.int .i64 d] 3)) B rv c := fun j c hc => by
          obtain ⟨rv, e1, e2⟩ := hrows j c hc
          exact ⟨rv, e1, e2.grow hup (fun _ h => by cases h)⟩
        have HOwn := Lib.hid (hown.alloc (.cells #[.int .i64 d] 3))
        have HRows := Lib.hid hrows1
        have HRd := Lib.hid hrd
        have HDi := Lib.hid hd
        have HBL := Lib.hid hbl
        have hgr2 : wr.grownBy ((wr.alloc (.cells #[.int .i64 d] 3)).alloc (.cells #[.slice (some ⟨wr.heap.size, 0, none⟩) 1 1, .slice none 0 0, .int .i64 1] 36)) none := grownBy_trans (World.grownBy_alloc wr _ none) (World.grownBy_alloc _ _ none)
        have HGr2 := Lib.hid hgr2
        clear hc1 hown hrows hrows1 hrd hup hd hbl hgr2
        go_wp2_with (at_builtin; refine wpList_append_lies _ rfl _ _ 33 rfl B 36 i0 (.agg #[.slice none 0 0, .slice none 0 0, .int .i64 0]) 3 56 Try.underlying33 hi hz0 hz1 hz2 rfl (by decide) _ _ _ rfl hown2 ⟨wr.heap.size + 1, 0, none⟩ 1 1 (con (.slice (some ⟨wr.heap.size, 0, none⟩) 1 1)) rfl rfl ?c1 ?c2 (by decide) ?c3 ?c4 ?c5 _ rfl ?_)
        case c1 =>
          intro j u hj
          have h1 := (Row.new (wr.alloc (.cells #[.int .i64 d] 3)) 36 (con (.slice (some ⟨wr.heap.size, 0, none⟩) 1 1))).cell hj
          have h2 : (wr.alloc (.cells #[.int .i64 d] 3)).heap.size = wr.heap.size + 1 := by simp
          rw [h2] at h1
          rw [addP, Nat.zero_add]
          exact h1
        case c2 =>
          intro u hu
          simp only [con, List.mem_cons, List.not_mem_nil, or_false] at hu
          rcases hu with rfl | rfl | rfl <;> rfl
        case c3 => unfold maxLen; omega
        case c4 => omega
        case c5 => exact Nat.le_trans hbB HGr2.out.size
        intro g' cap' w4' hown' hgrow _ _
        have hB4 : Below B w4 w4' := (HB.out.grown HGr2.out hbB (fun _ h => by cases h)).grown hgrow (Nat.le_trans hbB HGr2.out.size) (own_le hown2 (Nat.le_refl _))
        have hfin : ConR B (both cs (ds.take (i + 1))) (.slice (some ⟨g', 0, none⟩) (cs.length + i + 1) cap') w4' := by
          have e : both cs (ds.take (i + 1)) = both cs (ds.take i) ++ [[d]] := by unfold both; rw [take_snoc HDi.out, List.map_append, List.append_assoc]; rfl
          rw [e]
          exact con_push HOwn.out HRows.out HRd.out hgrow (by rw [HBL.out]; exact hown')
        have HF := Lib.hid hfin
        have HN2 := Lib.hid hB4
        clear hown' hgrow hB4 hfin hown2 hi hz0 hz1 hz2 d1 hbB
        go_wp2_with fail
        go_roundg (gk - 1)
        case measure => have := HG.out; omega
        case rel => exact ⟨i + 1, _, by go_num, rfl, by have := HG.out; omega, HN2.out, HF.out⟩
      · rw [List.take_of_length_le (by omega)] at hcon
        have hbk := both_ok HOK.out.ok HL.out
        have hb100 : (both cs ds).length ≤ 100 := by unfold both; rw [List.length_append, List.length_map]; omega
        have hbne : both cs ds ≠ [] := fun h => by
          have h1 : (both cs ds).length = 0 := by rw [h]; rfl
          unfold both at h1
          rw [List.length_append] at h1
          omega
        have hcall := mod_any hb100 hbne hbk hcon
        have HCall := Lib.hid hcall
        clear hcon hbk hb100 hbne hcall
        go_wp2_with fail
        refine HCall.out.mono ?_
        clear HCall
        rintro e w6 ⟨⟨u2, vs, rfl, hvo, hmod, hvl⟩, hb6⟩
        have hb46 : Below w4.heap.size w4 w6 := by
          have h1 := HB.out
          have h2 := h1.size
          rw [HBe.out] at h1
          exact h1.trans (hb6.mono h2)
        have hbw6 : Below w.heap.size w w6 := HBW.out.trans (hb6.mono HBW.out.size)
        obtain ⟨A2, C2, hu2, hvc⟩ := own_vals hvo
        subst hu2
        have HVC := Lib.hid hvc
        have HM := Lib.hid hmod
        have HB46 := Lib.hid hb46
        have HBW6 := Lib.hid hbw6
        clear hvo hmod hb6 hb46 hbw6 hvc HB HBW HG
        go_wp2_with fail
        go_loopg [63] (vs.length) (fun gk idx wr => ∃ (i : Nat), idx = .int .i64 (i : Int) ∧ i + gk = vs.length ∧ w6 = wr)
        case atStart => exact ⟨0, rfl, by omega, rfl⟩
        case round =>
          obtain ⟨i, rfl, hgk, rfl⟩ := hrel
          have HG := Lib.hid hgk
          clear hgk
          by_cases hlt2 : i < vs.length
          · obtain ⟨x, hx⟩ : ∃ x, vs[i]? = some x := ⟨_, List.getElem?_eq_getElem hlt2⟩
            obtain ⟨bs, hbo, hall⟩ := HM.out x (List.mem_of_getElem? hx)
            have hbls := own_bls hbo
            have hcv := cls_vals HOK.out.ok HL.out hall
            obtain ⟨g2, hA2, hcx⟩ := HVC.out i x hx
            subst hA2
            rcases HAns.out with ⟨rfl, hbot⟩ | ⟨rfl, m, hrd, hs, hdd, hcl⟩
            · exact absurd hbot hcv.noBot
            · have hgt : ∀ y ∈ outTo m 8, LitOk y ∧ tv bs y = true := fun y hy => got_true hs hcv hy
              have hol := outTo_len m 8
              obtain ⟨A3, C3, hgv, hgc⟩ := hrd.below HB46.out
              subst hgv
              have HGC := Lib.hid hgc
              have HGT := Lib.hid hgt
              have HBls := Lib.hid hbls
              clear hgc hgt hbls hcv hs hdd hcl hrd hbo hall hx
              obtain ⟨gk1, hgk1⟩ : ∃ k, k = gk := ⟨_, rfl⟩
              subst hgk1
              go_wp2_with fail
              go_loopg [69] ((outTo m 8).length) (fun gk idx wr => ∃ (j : Nat), idx = .int .i64 (j : Int) ∧ j + gk = (outTo m 8).length ∧ w6 = wr)
              case atStart => exact ⟨0, rfl, by omega, rfl⟩
              case round =>
                obtain ⟨j, rfl, hgk, rfl⟩ := hrel
                have HG2 := Lib.hid hgk
                clear hgk
                by_cases hlt3 : j < (outTo m 8).length
                · obtain ⟨y, hy⟩ : ∃ y, (outTo m 8)[j]? = some y := ⟨_, List.getElem?_eq_getElem hlt3⟩
                  obtain ⟨b3, o3, hA3, hc3⟩ := HGC.out j y hy
                  subst hA3
                  obtain ⟨hlo, htv⟩ := HGT.out y (List.mem_of_getElem? hy)
                  have HLo := Lib.hid hlo
                  have HTv := Lib.hid htv
                  clear hy hlo htv
                  go_wp2_with fail
                  refine (true_any HLo.out HBls.out).mono ?_
                  rintro e w' ⟨rfl, rfl⟩
                  rw [HTv.out]
                  go_wp2_with fail
                  go_roundg (gk - 1)
                  case measure => have := HG2.out; omega
                  case rel => exact ⟨j + 1, by go_num, by have := HG2.out; omega, rfl⟩
                · go_wp2_with fail
                  go_roundg (gk1 - 1)
                  case measure => have := HG.out; omega
                  case rel =>
                    exact ⟨i + 1, by go_num, by have := HG.out; omega, rfl⟩
          · rcases HAns.out with ⟨rfl, hbot⟩ | ⟨rfl, m, hrd, hs, hdd, hcl⟩
            · clear hbot
              go_wp2_with fail
              go_ret
              exact ⟨rfl, HBW6.out⟩
            · have hge := got_len HND.out HL.out hdd
              have hcm := List.mem_of_getElem? HC0.out
              have hpos : c0.length ≤ 1 → 0 < (outTo m 8).length := fun h => got_pos (HOK.out.ok c0 hcm) h (hcl _ (List.mem_map_of_mem hcm))
              have hol := outTo_len m 8
              obtain ⟨A3, C3, hgv, _⟩ := hrd.below HB46.out
              subst hgv
              have hcv := HBW6.out.cell (cell_lt HCV0.out)
              rw [HCV0.out] at hcv
              clear hs hdd hcl hrd
              generalize (outTo m 8).length = gl at hge hpos hol
              have hge' : (ds.length : Int) ≤ (gl : Int) := by omega
              by_cases h1 : (1 : Int) < (c0.length : Int)
              · go_wp2_with fail
                go_ret
                exact ⟨rfl, HBW6.out⟩
              · have hp2 : 0 < gl := hpos (by omega)
                have HP2 := Lib.hid hp2
                clear hpos
                go_wp2_with fail
                go_ret
                refine ⟨?_, HBW6.out⟩
                first
                  | rfl
                  | (show Ending.returned (Value.bool (decide (0 < gl))) = _
                     rw [decide_eq_true HP2.out])
  · have hl : ∀ d ∈ ds, LitOk d := fun d hd => by
      have := List.length_pos_iff.2 (List.ne_nil_of_mem hd)
      omega
    have h8 : ds.length ≤ 8 := by omega
    have hnd : (ds.map Int.natAbs).Nodup := by rw [List.length_eq_zero_iff.1 (show ds.length = 0 from by omega)]; simp
    have HL := Lib.hid hl
    have HND := Lib.hid hnd
    have HB3 := HB2
    clear hl hnd HB2
    go_wp2_with fail
    refine (HGo.out _ HB3.out HL.out h8).mono ?_
    rintro e w4 hz
    obtain ⟨gv, bad, rfl, hb4, hans⟩ := ans_of hz
    have HB4 := Lib.hid (HB3.out.trans (hb4.mono HB3.out.size))
    have HAns := Lib.hid hans
    clear hb4 hz hans HB3 HGo
    go_wp2_with fail
    refine (cla_any (HI.out.below HB4.out) hclen).mono ?_
    rintro e w5 ⟨⟨u, rfl, hcon⟩, hb5⟩
    obtain ⟨B, hB⟩ : ∃ B, B = w4.heap.size := ⟨_, rfl⟩
    rw [← hB] at hcon hb5
    have hwB : w.heap.size ≤ B := by rw [hB]; exact HB4.out.size
    have HBe := Lib.hid hB
    have HCon := Lib.hid hcon
    have HB5 := Lib.hid hb5
    clear hcon hb5 hB
    go_wp2_with fail
    go_loopg [49, 7] (ds.length) (fun gk idx uv wr => ∃ (i : Nat) (u : Value), idx = .int .i64 (i : Int) ∧ u = uv ∧ i + gk = ds.length ∧ Below B w4 wr ∧ ConR B (both cs (ds.take i)) u wr)
    case atStart => exact ⟨0, _, rfl, rfl, by omega, HB5.out, by simpa [both] using HCon.out⟩
    case round =>
      obtain ⟨i, u, rfl, rfl, hgk, hb, hcon⟩ := hrel
      clear HCon HB5
      have HG := Lib.hid hgk
      have HB := Lib.hid hb
      clear hgk hb
      have hbw : Below w.heap.size w wr := HB4.out.trans (HB.out.mono hwB)
      have HBW := Lib.hid hbw
      clear hbw
      have hlt : ¬ i < ds.length := by omega
      rw [List.take_of_length_le (by omega)] at hcon
      have hbk := both_ok HOK.out.ok HL.out
      have hb100 : (both cs ds).length ≤ 100 := by unfold both; rw [List.length_append, List.length_map]; omega
      have hbne : both cs ds ≠ [] := fun h => by
        have h1 : (both cs ds).length = 0 := by rw [h]; rfl
        unfold both at h1
        rw [List.length_append] at h1
        omega
      have hcall := mod_any hb100 hbne hbk hcon
      have HCall := Lib.hid hcall
      clear hcon hbk hb100 hbne hcall
      go_wp2_with fail
      refine HCall.out.mono ?_
      clear HCall
      rintro e w6 ⟨⟨u2, vs, rfl, hvo, hmod, hvl⟩, hb6⟩
      have hb46 : Below w4.heap.size w4 w6 := by
        have h1 := HB.out
        have h2 := h1.size
        rw [HBe.out] at h1
        exact h1.trans (hb6.mono h2)
      have hbw6 : Below w.heap.size w w6 := HBW.out.trans (hb6.mono HBW.out.size)
      obtain ⟨A2, C2, hu2, hvc⟩ := own_vals hvo
      subst hu2
      have HVC := Lib.hid hvc
      have HM := Lib.hid hmod
      have HB46 := Lib.hid hb46
      have HBW6 := Lib.hid hbw6
      clear hvo hmod hb6 hb46 hbw6 hvc HB HBW HG
      go_wp2_with fail
      go_loopg [63] (vs.length) (fun gk idx wr => ∃ (i : Nat), idx = .int .i64 (i : Int) ∧ i + gk = vs.length ∧ w6 = wr)
      case atStart => exact ⟨0, rfl, by omega, rfl⟩
      case round =>
        obtain ⟨i, rfl, hgk, rfl⟩ := hrel
        have HG := Lib.hid hgk
        clear hgk
        by_cases hlt2 : i < vs.length
        · obtain ⟨x, hx⟩ : ∃ x, vs[i]? = some x := ⟨_, List.getElem?_eq_getElem hlt2⟩
          obtain ⟨bs, hbo, hall⟩ := HM.out x (List.mem_of_getElem? hx)
          have hbls := own_bls hbo
          have hcv := cls_vals HOK.out.ok HL.out hall
          obtain ⟨g2, hA2, hcx⟩ := HVC.out i x hx
          subst hA2
          rcases HAns.out with ⟨rfl, hbot⟩ | ⟨rfl, m, hrd, hs, hdd, hcl⟩
          · exact absurd hbot hcv.noBot
          · have hgt : ∀ y ∈ outTo m 8, LitOk y ∧ tv bs y = true := fun y hy => got_true hs hcv hy
            have hol := outTo_len m 8
            obtain ⟨A3, C3, hgv, hgc⟩ := hrd.below HB46.out
            subst hgv
            have HGC := Lib.hid hgc
            have HGT := Lib.hid hgt
            have HBls := Lib.hid hbls
            clear hgc hgt hbls hcv hs hdd hcl hrd hbo hall hx
            obtain ⟨gk1, hgk1⟩ : ∃ k, k = gk := ⟨_, rfl⟩
            subst hgk1
            go_wp2_with fail
            go_loopg [69] ((outTo m 8).length) (fun gk idx wr => ∃ (j : Nat), idx = .int .i64 (j : Int) ∧ j + gk = (outTo m 8).length ∧ w6 = wr)
            case atStart => exact ⟨0, rfl, by omega, rfl⟩
            case round =>
              obtain ⟨j, rfl, hgk, rfl⟩ := hrel
              have HG2 := Lib.hid hgk
              clear hgk
              by_cases hlt3 : j < (outTo m 8).length
              · obtain ⟨y, hy⟩ : ∃ y, (outTo m 8)[j]? = some y := ⟨_, List.getElem?_eq_getElem hlt3⟩
                obtain ⟨b3, o3, hA3, hc3⟩ := HGC.out j y hy
                subst hA3
                obtain ⟨hlo, htv⟩ := HGT.out y (List.mem_of_getElem? hy)
                have HLo := Lib.hid hlo
                have HTv := Lib.hid htv
                clear hy hlo htv
                go_wp2_with fail
                refine (true_any HLo.out HBls.out).mono ?_
                rintro e w' ⟨rfl, rfl⟩
                rw [HTv.out]
                go_wp2_with fail
                go_roundg (gk - 1)
                case measure => have := HG2.out; omega
                case rel => exact ⟨j + 1, by go_num, by have := HG2.out; omega, rfl⟩
              · go_wp2_with fail
                go_roundg (gk1 - 1)
                case measure => have := HG.out; omega
                case rel =>
                  exact ⟨i + 1, by go_num, by have := HG.out; omega, rfl⟩
        · rcases HAns.out with ⟨rfl, hbot⟩ | ⟨rfl, m, hrd, hs, hdd, hcl⟩
          · clear hbot
            go_wp2_with fail
            go_ret
            exact ⟨rfl, HBW6.out⟩
          · have hge := got_len HND.out HL.out hdd
            have hcm := List.mem_of_getElem? HC0.out
            have hpos : c0.length ≤ 1 → 0 < (outTo m 8).length := fun h => got_pos (HOK.out.ok c0 hcm) h (hcl _ (List.mem_map_of_mem hcm))
            have hol := outTo_len m 8
            obtain ⟨A3, C3, hgv, _⟩ := hrd.below HB46.out
            subst hgv
            have hcv := HBW6.out.cell (cell_lt HCV0.out)
            rw [HCV0.out] at hcv
            clear hs hdd hcl hrd
            generalize (outTo m 8).length = gl at hge hpos hol
            have hge' : (ds.length : Int) ≤ (gl : Int) := by omega
            by_cases h1 : (1 : Int) < (c0.length : Int)
            · go_wp2_with fail
              go_ret
              exact ⟨rfl, HBW6.out⟩
            · have hp2 : 0 < gl := hpos (by omega)
              have HP2 := Lib.hid hp2
              clear hpos
              go_wp2_with fail
              go_ret
              refine ⟨?_, HBW6.out⟩
              first
                | rfl
                | (show Ending.returned (Value.bool (decide (0 < gl))) = _
                   rw [decide_eq_true HP2.out])
end Go.Proofs.Ytiimddkopiknpaa
