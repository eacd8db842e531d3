/- parseSlice: the contract par_mem. -/
import Derived.Test.YtiimddkopiknpaaParA
namespace Go.Proofs.Ytiimddkopiknpaa
open Go.RowKit
attribute [local go_sem ↓] Go.wp_at_zero Go.wp_at_succ

section
variable {Φ : PL}

/-- Behind parseSlice. -/
def ParPost (Φ : PL) (C : List (List Nat)) (T : Nat → Prop) (Bot : Prop) (e : Ending) (w : World) : Prop :=
  e = .returned (.tuple #[]) ∧ ((Bot ∧ ∃ us uv CS cv K cb lb L mv m, PMem Φ w 2 us uv CS cv K cb lb L mv m) ∨
    ∃ st us uv CS cv K cb lb L bm m, (st = 0 ∨ st = 1) ∧ PMem Φ w st us uv CS cv K cb lb L (.slice (some ⟨bm, 0, none⟩) 8 8) m ∧ PAbs C T Bot m us CS L ∧ (∀ k ∈ CS, k < K) ∧ CS.length ≤ 20 ∧ Opn m CS L)

set_option maxRecDepth 100000 in
set_option maxHeartbeats 1000000 in
theorem par_mem {T : Nat → Prop} {Bot : Prop} {cs : List (List Int)} {w : World} {g cap : Nat} (hbot : ∀ l, l < 16 → T l → T (neg l) → Bot) (hok : ∀ c ∈ cs, ClsOk c) (hlen : cs.length ≤ 20) (hT : ∀ c ∈ cs, Rules T Bot (c.map enc))
    (hcnf : CnfAt Φ.w0 Φ.B0 g cs) (hp : PMem Φ w 0 [] (.slice none 0 0) [] (.slice none 0 0) 0 (fun _ => 0) (fun _ => 0) (fun _ => []) (.slice none 0 0) []) :
    Calls Try.prog 37 #[.pointer (some ⟨Φ.p, 0, none⟩), .slice (some ⟨g, 0, none⟩) cs.length cap] w (ParPost Φ (cs.map (·.map enc)) T Bot) := by
  have HP := Lib.hid hp
  have HC := Lib.hid hcnf
  clear hp hcnf
  go_enter Try.func37, Try.ntmps37
  go_wp2_with fail
  go_loopg [17] cs.length (fun gk iv wr => ∃ (i : Nat) (us : List Nat) (uv cv : Value) (K : Nat) (cb lb : Nat → Nat) (L : Nat → List Nat), iv = .int .i64 (i : Int) ∧ i + gk = cs.length ∧ ParR Φ cs i wr us uv cv K cb lb L)
  case atStart => exact ⟨0, [], .slice none 0 0, .slice none 0 0, 0, fun _ => 0, fun _ => 0, fun _ => [], rfl, by omega, HP.out, by omega, by simp, by simp, by omega, by simp⟩
  case round =>
    obtain ⟨i, us, uv, cv, K, cb, lb, L, rfl, hgk, hr⟩ := hrel
    clear HP
    obtain ⟨W, hWe⟩ : ∃ W, W = wr := ⟨_, rfl⟩
    subst hWe
    have HG := Lib.hid hgk
    have hKi := hr.hK
    have hui := hr.hu
    clear hgk
    by_cases hi : i < cs.length
    · obtain ⟨c, hc⟩ : ∃ c, cs[i]? = some c := ⟨_, List.getElem?_eq_getElem hi⟩
      have hcok := hok c (List.mem_of_getElem? hc)
      obtain ⟨b, cp, hbB, f1, f2⟩ := (HC.out.below hr.mem.bel).row i c hc
      have hl8 : c.length ≤ 8 := by simpa using hcok.cl.len8
      have HR := Lib.hid hr
      have HCi := Lib.hid hc
      have HOk := Lib.hid hcok
      have HF2 := Lib.hid f2
      clear hr hc hcok f2
      by_cases h1 : c.length = 1
      · obtain ⟨x, rfl⟩ : ∃ x, c = [x] := by
          match c, h1 with
          | [x], _ => exact ⟨x, rfl⟩
        have g1 := HF2.out 0 x rfl
        have hx := HOk.out.rng x (by simp)
        obtain ⟨hx0, hx1, hx2⟩ := hx
        have hxb : (x == 0) = false := by simpa using hx0
        have hcv : IntKind.i32.wrap x = x := IntWalk.i32_in _ (by omega)
        have b0 : (([x] : List Int).length : Int) = 1 := rfl
        go_wp2_with fail
        refine (toLit_any x W hx1 hx2 hx0).mono ?_
        rintro e' w' ⟨rfl, rfl⟩
        have hee : (if x < 0 then (2 * (-x - 1) + 1).toNat else (2 * (x - 1)).toNat) = enc x := rfl
        rw [hee]
        have he16 : enc x < 16 := enc_lt ⟨hx0, hx1, hx2⟩
        go_wp2_with fail
        refine (var_any _ _ he16).mono ?_
        rintro e' w' ⟨rfl, rfl⟩
        have p0 := HR.out.mem.pc (i := 0) rfl
        have v1 : ¬ (8 : Int) ≤ (enc x : Int) / 2 := by omega
        have v2 : IntKind.i64.wrap ((enc x : Int) / 2) = (enc x : Int) / 2 := IntWalk.i64_in _ (by omega)
        have p3 := HR.out.mem.pc (i := 3) rfl
        have p3f := HR.out.mem.pf 3
        obtain ⟨i0, hi0, hz0, hz1, hz2⟩ := info_parts Try.info90
        have ho := HR.out.mem.units
        have hbt : Φ.B0 ≤ W.heap.size := Nat.le_trans Φ.b0 HR.out.mem.bel.size
        unfold litV
        go_wp2_with (at_builtin; refine wpList_append_lies _ rfl _ _ 61 rfl Φ.B0 90 i0 (.int .i32 0) 1 4 Try.underlying61 hi0 hz0 hz1 hz2 rfl (by decide) _ _ _ rfl (ho.alloc _) ⟨W.heap.size, 0, none⟩ 1 1 [.int .i32 (enc x)] rfl rfl ?c1 ?c2 (by decide) ?c3 ?c4 ?c5 _ rfl ?_)
        case c1 =>
          intro j u hj
          match j, hj with
          | 0, hj => simp at hj; subst hj; simp [Addr.add]
        case c2 => intro u hu; simp at hu; subst hu; rfl
        case c3 => unfold maxLen; omega
        case c4 => omega
        case c5 => simp; omega
        intro g3 cap3 w4 hown' hgrow hat _
        have h4 := HR.out.mem.alloc (.cells #[.int .i32 (enc x : Int)] 90)
        have hc := Chg.ofOwn h4.units hgrow
        have f3 := (hc.row h4.row (by decide)).cell (i := 3) rfl
        have f4 := (hc.row h4.row (by decide)).frozen 3
        have h5 := h4.unit (l := enc x) hgrow hown' (hat.imp (fun e => by rw [e]; rfl) (fun e => ⟨g3, rfl, by rw [e]; simp⟩))
        have H5 := Lib.hid h5
        clear h5 hown' hgrow hc h4 ho hbt p3 p3f hat
        go_wp2_with fail
        go_roundg (gk - 1)
        case measure => have := HG.out; omega
        case rel => exact ⟨i + 1, us ++ [enc x], _, cv, K, cb, lb, L, by go_num, by have := HG.out; omega, HR.out.unit HCi.out H5.out⟩
      · have h2 : 2 ≤ c.length := by
          have := HOk.out.ne
          have : c.length ≠ 0 := fun e => this (List.eq_nil_of_length_eq_zero e)
          omega
        have b0 : ((c.length : Int) == 0) = false := by simp; exact HOk.out.ne
        have b1 : ((c.length : Int) == 1) = false := by simp; omega
        have hmk := mk_row 61 90 (.int .i32 0) 4 Try.underlying61 Try.info90 rfl c.length (by omega) (by omega)
        have HRow0 := Lib.hid (Row.make W 90 (.int .i32 0) c.length)
        obtain ⟨B, hB⟩ : ∃ B, B = W.heap.size := ⟨_, rfl⟩
        go_upto_block 3 with fail
        rw [← hB] at HRow0 ⊢
        obtain ⟨w1, hw1⟩ : ∃ w1, w1 = W.alloc (.cells (Array.replicate c.length (.int .i32 0)) 90) := ⟨_, rfl⟩
        rw [← hw1] at HRow0 ⊢
        have hg1 : W.grownBy w1 none := by rw [hw1]; exact World.grownBy_alloc _ _ none
        have hBp : ¬ B = Φ.p := by have := HR.out.mem.row.lt; omega
        have HB := Lib.hid hB
        have HG1 := Lib.hid hg1
        clear hw1 hg1 hB hmk
        go_cut [] (fun wx => W.grownBy wx none ∧ Row wx B 90 (c.map fun x => litV (enc x)))
        case first =>
          clear f1
          go_wp2_with fail
          go_loopg [28] c.length (fun gk2 jv wk => ∃ j : Nat, jv = .int .i64 (j : Int) ∧ j + gk2 = c.length ∧ W.grownBy wk none ∧ Row wk B 90 (((c.take j).map fun x => litV (enc x)) ++ List.replicate (c.length - j) (.int .i32 0)))
          case atStart => exact ⟨0, rfl, by omega, HG1.out, by simpa using HRow0.out⟩
          case round =>
            obtain ⟨j, rfl, hgk2, hgr, hrow⟩ := hrel
            clear HG1 HRow0
            have HG2 := Lib.hid hgk2
            have HGr := Lib.hid hgr
            clear hgk2
            by_cases hj : j < c.length
            · obtain ⟨x, hx⟩ : ∃ x, c[j]? = some x := ⟨_, List.getElem?_eq_getElem hj⟩
              obtain ⟨hx0, hx1, hx2⟩ := HOk.out.rng x (List.mem_of_getElem? hx)
              have he16 : enc x < 16 := enc_lt ⟨hx0, hx1, hx2⟩
              have g1 : wr.cell? ⟨b, j, none⟩ = some (.int .i64 x) := by
                have h3 := HF2.out j x hx
                have hbl : b < W.heap.size := Nat.lt_of_lt_of_le hbB (Nat.le_trans Φ.b0 HR.out.mem.bel.size)
                unfold World.cell? at *
                rw [hgr.block b hbl (by simp)]; exact h3
              have hmid : (((c.take j).map fun x => litV (enc x)) ++ List.replicate (c.length - j) (Value.int .i32 0))[j]? = some (.int .i32 0) := lits_mid hj
              have g2 := hrow.cell hmid
              have g3 := hrow.frozen j
              have p0 := (HR.out.mem.grown hgr).pc (i := 0) rfl
              have hxb : (x == 0) = false := by simpa using hx0
              have hcv : IntKind.i32.wrap x = x := IntWalk.i32_in _ (by omega)
              have hrow2 := hrow.set j (litV (enc x))
              have hset : (((c.take j).map fun x => litV (enc x)) ++ List.replicate (c.length - j) (Value.int .i32 0)).set j (litV (enc x)) = ((c.take (j + 1)).map fun x => litV (enc x)) ++ List.replicate (c.length - (j + 1)) (.int .i32 0) := lits_set hx
              rw [hset] at hrow2
              have hgr2 : W.grownBy (wr.setCell ⟨B, j, none⟩ (litV (enc x))) none := by
                refine grownBy_none_of (b := B) (grownBy_trans (grownBy_weaken hgr _) (grownBy_setCell wr ⟨B, j, none⟩ _)) ?_
                rw [HB.out]; exact Nat.le_refl _
              have HRow2 := Lib.hid hrow2
              have HGr2 := Lib.hid hgr2
              clear hrow hgr hmid hset hrow2 hgr2 hx
              go_wp2_with fail
              refine (toLit_any x wr hx1 hx2 hx0).mono ?_
              rintro e' w' ⟨rfl, rfl⟩
              have hee : (if x < 0 then (2 * (-x - 1) + 1).toNat else (2 * (x - 1)).toNat) = enc x := rfl
              rw [hee]
              have v1 : ¬ (8 : Int) ≤ (enc x : Int) / 2 := by omega
              have v2 : IntKind.i64.wrap ((enc x : Int) / 2) = (enc x : Int) / 2 := IntWalk.i64_in _ (by omega)
              unfold litV
              go_wp2_with fail
              refine (var_any _ _ he16).mono ?_
              rintro e' w' ⟨rfl, rfl⟩
              go_wp2_with fail
              go_roundg (gk - 1)
              case measure => have := HG2.out; omega
              case rel => exact ⟨j + 1, by go_num, by have := HG2.out; omega, HGr2.out, HRow2.out⟩
            · go_wp2_with fail
              go_meet
              have hjc : j = c.length := by have := HG2.out; omega
              subst hjc
              exact ⟨HGr.out, by simpa using hrow⟩
        case rest =>
          obtain ⟨hg2, hrow⟩ := hcut
          have hp2 := HR.out.mem.grown hg2
          have HP2 := Lib.hid hp2
          have HRow := Lib.hid hrow
          have HGw := Lib.hid hg2
          clear hp2 hrow hg2 HG1 HRow0 f1
          have g1 := HP2.out.pc (i := 1) rfl
          obtain ⟨i0, hi0, hz0, hz1, hz2⟩ := info_parts Try.info50
          go_wp2_with fail
          refine wp_region_lex (fun w' => w'.cell? ⟨Φ.p, 1, none⟩ = some cv)
            [false, false, false, false, false, false, true, true, true] (by kernel_rfl) (by kernel_rfl) g1 ?_
          iterate 6
            refine lex_take (v := ?_) (.inl ⟨by rfl, ?_⟩) (fun _ _ _ h => h) ?_
            rotate_left
            · (intro w hSw; (try dsimp only at hSw); go_simp; try with_reducible rfl)
            simp only [Act.put, List.setIfInBounds_toArray, List.set]
          refine lex_act (fun G hK => ?_)
          have HK := Lib.hid hK
          clear hK
          go_simp
          refine (new_any B c.length c.length wc.drew).mono ?_
          rintro e' w5 ⟨rfl, hw5⟩
          have hp5 := HP2.out.drew.alloc (.cells #[.slice (some ⟨B, 0, none⟩) c.length c.length, .int .u32 0, .float .f32 0, .pointer none] 115)
          have hr5 := HRow.out.drew.alloc (.cells #[.slice (some ⟨B, 0, none⟩) c.length c.length, .int .u32 0, .float .f32 0, .pointer none] 115)
          have hn5 := Row.new wc.drew 115 [.slice (some ⟨B, 0, none⟩) c.length c.length, .int .u32 0, .float .f32 0, .pointer none]
          have hs5 : wc.drew.heap.size = wc.heap.size := rfl
          have hWs : W.heap.size ≤ wc.heap.size := HGw.out.size
          have hBW : B = W.heap.size := HB.out
          obtain ⟨Cb, hCb⟩ : ∃ Cb, Cb = wc.drew.heap.size := ⟨_, rfl⟩
          rw [← hCb] at hn5 ⊢
          rw [hw5] at hp5 hr5
          have hn5' : Row w5 Cb 115 [.slice (some ⟨B, 0, none⟩) c.length c.length, .int .u32 0, .float .f32 0, .pointer none] := by rw [← hw5]; exact hn5
          have ha5 : ClauseAt w5 Cb B (c.map enc) 0 := ⟨⟨c.length, 0, by simp, by rw [List.length_map]; exact hn5'⟩, ⟨[], by rw [List.append_nil, List.map_map]; exact hr5⟩⟩
          have hb0 : Φ.B0 ≤ W.heap.size := Nat.le_trans Φ.b0 HR.out.mem.bel.size
          have hl5 := hp5.laid (c := Cb) (b := B) (l := c.map enc) (fun k hk => List.mem_range.1 hk) ha5
            (fun k hk e => by obtain ⟨_, _, _, a2⟩ := (HP2.out.db k hk).hdr; have := a2.lt; omega)
            (fun k hk e => by obtain ⟨_, a3⟩ := (HR.out.mem.db k hk).row; have := a3.lt; omega) (by omega) (by omega)
            (fun e => by have := (HR.out.mem.units.lt _ e).2; omega)
          have HL5 := Lib.hid hl5
          clear hp5 hr5 hn5 hn5' ha5 hl5 hw5 g1 hBW hCb hs5 hWs hb0
          refine HK.out _ _ (HL5.out.pc (i := 1) rfl) ?_
          clear HK G
          refine lex_act (fun G hK => ?_)
          have HK := Lib.hid hK
          clear hK
          go_simp
          have h8 := HL5.out.alloc (.cells #[.pointer (some ⟨Cb, 0, none⟩)] 50)
          refine HK.out _ _ (h8.pc (i := 1) rfl) ?_
          clear HK G
          refine lex_act (fun G hK => ?_)
          have HK := Lib.hid hK
          clear hK
          have hKl : (List.range K).length = K := List.length_range
          refine step_append_lies _ rfl _ _ 58 (by rfl) Φ.B0 50 i0 (.pointer none) 1 8 Try.underlying58 hi0 hz0 hz1 hz2 rfl (by decide) _ _ _ (by rfl) h8.cls ⟨w5.heap.size, 0, none⟩ 1 1 [.pointer (some ⟨Cb, 0, none⟩)] (by rfl) rfl ?c1 ?c2 (by decide) ?c3 ?c4 ?c5 _ rfl ?_
          case c1 =>
            intro j u hj
            match j, hj with
            | 0, hj => simp at hj; subst hj; simp [go_sem, Addr.add]
          case c2 => intro u hu; simp at hu; subst hu; rfl
          case c3 => unfold maxLen; omega
          case c4 => omega
          case c5 => exact Nat.le_trans Φ.b0 h8.bel.size
          intro g9 cap9 w9 hown9 hgrow9 _ _
          have hc9 := Chg.ofOwn h8.cls hgrow9
          have t1 := (hc9.row h8.row (by decide)).cell (i := 1) rfl
          have t1f := (hc9.row h8.row (by decide)).frozen 1
          refine HK.out _ _ t1 ?_
          clear HK G
          refine lex_tail ?_
          have h9 := h8.list (cv' := .slice (some ⟨g9, 0, none⟩) ((List.range K).length + 1) cap9) (CS' := List.range (K + 1)) hgrow9 (by
            have e1 : ptrs (upd cb K Cb) (List.range (K + 1)) = ptrs (upd cb K Cb) (List.range K) ++ [.pointer (some ⟨Cb, 0, none⟩)] := by
              unfold ptrs; rw [List.range_succ, List.map_append]; simp
            rw [e1, List.length_range]
            simpa using hown9)
          rw [List.length_range] at h9
          have H9 := Lib.hid h9
          clear h9 hown9 hgrow9 hc9 h8
          go_wp2_with fail
          go_roundg (gk - 1)
          case measure => have := HG.out; omega
          case rel => exact ⟨i + 1, us, uv, _, K + 1, _, _, _, by go_num, by have := HG.out; omega, HR.out.clause HCi.out h2 H9.out⟩
    · have hic : i = cs.length := by have := HG.out; omega
      subst hic
      have hmk : ∀ w : World, (Instr.makeSlice 62 (.int .i64 8) (.int .i64 8)).run Try.prog w = .ok (.slice (some ⟨w.heap.size, 0, none⟩) 8 8) (w.alloc (.cells (Array.replicate 8 (.int .i64 0)) 51)) := fun w => mk_row 62 51 (.int .i64 0) 8 Try.underlying62 Try.info51 rfl 8 (by omega) (by omega) w
      obtain ⟨us0, uscap, huv, huc, hum, hua⟩ := own_form hr.mem.units
      have p0 := hr.mem.pc (i := 0) rfl
      have hal := hr.mem.alloc (.cells (Array.replicate 8 (.int .i64 0)) 51)
      have p4 := hal.pc (i := 4) rfl
      have p4f := hal.pf 4
      have p3 := hal.pc (i := 3) rfl
      clear hal
      have hm1 := (hr.mem.alloc (.cells (Array.replicate 8 (.int .i64 0)) 51)).model (bm := W.heap.size) (m' := List.replicate 8 0) (Nat.le_trans Φ.b0 hr.mem.bel.size) (by simpa using Row.make W 51 (.int .i64 0) 8) rfl
      rw [huv] at p3
      have HR := Lib.hid hr
      have HM1 := Lib.hid hm1
      have HUV := Lib.hid huv
      have HUA := Lib.hid hua
      clear hr hm1 huv hua
      obtain ⟨bm, hbm⟩ : ∃ bm, bm = W.heap.size := ⟨_, rfl⟩
      rw [← hbm] at HM1
      go_upto_block 5 with fail
      rw [← hbm]
      obtain ⟨w1, hw1⟩ : ∃ w1, w1 = (W.alloc (.cells (Array.replicate 8 (.int .i64 0)) 51)).setCell ⟨Φ.p, 4, none⟩ (.slice (some ⟨bm, 0, none⟩) 8 8) := ⟨_, rfl⟩
      rw [← hw1] at HM1 ⊢
      clear hw1 hbm hmk p0 p4 p4f p3
      go_wp2_with fail
      go_loopg [127] us.length (fun gk qv wr => ∃ (q : Nat) (m : List Int), qv = .int .i64 (q : Int) ∧ q + gk = us.length ∧ PMem Φ wr 0 us uv (List.range K) cv K cb lb L (.slice (some ⟨bm, 0, none⟩) 8 8) m ∧ UniR T m us q)
      case atStart => exact ⟨0, List.replicate 8 0, rfl, by omega, HM1.out, UniR.start T us⟩
      case round =>
        obtain ⟨q, m, rfl, hgk2, hpm, hur⟩ := hrel
        clear HM1
        obtain ⟨hrow, hml, hbp⟩ := hpm.md rfl
        have HG2 := Lib.hid hgk2
        have HUR := Lib.hid hur
        clear hgk2 hur
        by_cases hq : q < us.length
        · obtain ⟨gu, rfl⟩ := HUA.out (by omega)
          obtain ⟨u, hu⟩ : ∃ u, us[q]? = some u := ⟨_, List.getElem?_eq_getElem hq⟩
          obtain ⟨x, hx, hux⟩ := HR.out.uns u (List.mem_of_getElem? hu)
          have hu16 : u < 16 := by rw [hux]; exact enc_lt ((hok _ hx).rng x (by simp))
          have hTu : T u := by
            have h1 := (hT _ hx).one u (by simp [hux]) (fun y hy hne => absurd (by simpa [hux] using hy) hne)
            exact h1
          obtain ⟨_, _, e1, f1, _, _, _⟩ := own_cell hpm.units (i := q) (u := litV u) (by simp [hu])
          rw [HUV.out] at e1
          injection e1 with e1 _ e3
          injection e1 with e1
          injection e1 with e1
          subst e1 e3
          unfold litV at f1
          have f4 := hpm.pc (i := 4) rfl
          have f5 : wr.cell? ⟨bm, u / 2, none⟩ = some (.int .i64 (m.getD (u / 2) 0)) := hrow.cell (by
            have hlt : u / 2 < m.length := by omega
            simp [List.getElem?_eq_getElem hlt])
          have f5f := hrow.frozen (u / 2)
          have hzv : m.getD (u / 2) 0 = 0 ∨ m.getD (u / 2) 0 = 1 ∨ m.getD (u / 2) 0 = -1 := by
            have hlt : u / 2 < m.length := by omega
            rw [List.getD_eq_getElem?_getD, List.getElem?_eq_getElem hlt]
            exact HUR.out.mval _ (List.getElem_mem hlt)
          have hlv : lv m u = sgn u (m.getD (u / 2) 0) := rfl
          generalize m.getD (u / 2) 0 = z at f5 hzv hlv
          have v0 : (0 : Int) ≤ (u : Int) / 2 := by omega
          have v1 : (u : Int) / 2 < 8 := by omega
          have v2 : ((u : Int) / 2).toNat = u / 2 := by omega
          have HUq := Lib.hid hu
          have HPm := Lib.hid hpm
          have HLV := Lib.hid hlv
          have HZV := Lib.hid hzv
          clear hu hpm hrow hlv hzv hx hux
          go_wp2_with fail
          refine (var_any _ _ hu16).mono ?_
          rintro e' w' ⟨rfl, rfl⟩
          by_cases hz0 : z = 0
          · subst hz0
            have hz : lv m u = 0 := by rw [HLV.out]; exact (sgn_zero _ _).2 rfl
            go_wp2_with fail
            refine (pos_any _ _ hu16).mono ?_
            rintro e' w' ⟨rfl, rfl⟩
            by_cases hpos : u % 2 = 0
            · have hpb : decide (u % 2 = 0) = true := by simpa using hpos
              rw [hpb]
              have hs : setm m u 1 = m.set (u / 2) 1 := by unfold setm sgn; rw [if_pos hpos]
              have hp2 := HPm.out.setM rfl (u / 2) 1
              rw [← hs] at hp2
              have HP2 := Lib.hid hp2
              clear hp2 hs HPm
              go_wp2_with fail
              go_roundg (gk - 1)
              case measure => have := HG2.out; omega
              case rel => exact ⟨q + 1, setm m u 1, by go_num, by have := HG2.out; omega, HP2.out, HUR.out.bind hml HUq.out hu16 hz hTu⟩
            · have hpb : decide (u % 2 = 0) = false := by simpa using hpos
              rw [hpb]
              have hs : setm m u 1 = m.set (u / 2) (-1) := by unfold setm sgn; rw [if_neg hpos]
              have hp2 := HPm.out.setM rfl (u / 2) (-1)
              rw [← hs] at hp2
              have HP2 := Lib.hid hp2
              clear hp2 hs HPm
              go_wp2_with fail
              go_roundg (gk - 1)
              case measure => have := HG2.out; omega
              case rel => exact ⟨q + 1, setm m u 1, by go_num, by have := HG2.out; omega, HP2.out, HUR.out.bind hml HUq.out hu16 hz hTu⟩
          · have hzb : (z == 0) = false := by simpa using hz0
            go_wp2_with fail
            go_region_held3 (fun w' => w'.cell? ⟨Φ.p, 4, none⟩ = some (.slice (some ⟨bm, 0, none⟩) 8 8) ∧ w'.cell? ⟨bm, u / 2, none⟩ = some (.int .i64 z)) (go_keep) (first | (go_at_call 43; refine (pos_any _ _ hu16).mono ?_; rintro e' w' ⟨rfl, rfl⟩))
            rename_i hHeld
            clear hHeld
            have HPn := Lib.hid HPm.out.drew
            obtain ⟨wd, hwd⟩ : ∃ wd, wd = wr.drew := ⟨_, rfl⟩
            rw [← hwd] at HPn ⊢
            clear hwd f1 f4 f5 f5f HPm
            have p2 := HPn.out.pc (i := 2) rfl
            have p2f := HPn.out.pf 2
            have hcb := conf_bit (l := u) hz0
            go_wp2_with fail
            · rename_i hb
              go_end0
              refine ⟨rfl, .inl ⟨hbot u hu16 hTu (HUR.out.sound _ (neg_lt hu16) ?_), us, _, _, cv, K, cb, lb, L, _, m, HPn.out.status 2⟩⟩
              rw [← fls_iff]
              unfold fls
              rw [HLV.out]
              have := hcb.symm.trans hb
              simpa using this
            · rename_i hb
              go_roundg (gk - 1)
              case measure => have := HG2.out; omega
              case rel =>
                refine ⟨q + 1, m, by go_num, by have := HG2.out; omega, HPn.out, HUR.out.keep HUq.out ?_⟩
                have h2 : sgn u z ≠ 0 := fun h => hz0 ((sgn_zero _ _).1 h)
                have h3 := hcb.symm.trans hb
                have h4 : ¬ sgn u z < 0 := by simpa using h3
                unfold tru
                rw [HLV.out]; omega
        · have hqe : q = us.length := by have := HG2.out; omega
          subst hqe
          have ha := HR.out.toAbs hok hlen hT HUR.out hml
          have hS : SimS Φ (cs.map (·.map enc)) T Bot K K cb lb (.slice (some ⟨bm, 0, none⟩) 8 8) K us uv (List.range K) cv L m wr :=
            ⟨hpm, by rw [List.take_of_length_le (by simp)]; exact ha, Nat.le_refl _, List.length_range, fun k hk => List.mem_range.1 hk⟩
          have HS := Lib.hid hS
          clear hS ha hpm hrow
          go_wp2_with fail
          refine (sim_mem rfl (by omega) HS.out).mono ?_
          rintro e' w' ⟨rfl, hpost⟩
          have HPo := Lib.hid hpost
          clear hpost
          go_wp2_with fail
          go_end0
          refine ⟨rfl, ?_⟩
          rcases HPo.out with ⟨hb, us', uv', CS', cv', L', m', h1⟩ | ⟨st', us', uv', CS', cv', L', m', h0, h1, h2, h3, h4, h5⟩
          · exact .inl ⟨hb, us', uv', CS', cv', K, cb, lb, L', _, m', h1⟩
          · exact .inr ⟨st', us', uv', CS', cv', K, cb, lb, L', bm, m', h0, h1, h2, h3, by omega, h5⟩
end
end Go.Proofs.Ytiimddkopiknpaa
