/- propagate: the contract prp_mem. -/
import Derived.Test.YtiimddkopiknpaaPrpA
import Derived.Test.YtiimddkopiknpaaSpc
namespace Go.Proofs.Ytiimddkopiknpaa
open Go.RowKit
attribute [local go_sem ↓] Go.wp_at_zero Go.wp_at_succ

/-- Behind propagate: a conflict; or nothing is left to be looked at. -/
def PrpPost (Λ : Lay) (T : Thy) (Bot : Prop) (m0 : List Int) (tr0 : List Nat) (e : Ending) (w : World) : Prop :=
  (∃ p, e = .returned (.pointer (some p)) ∧ Bot ∧ Weak Λ w) ∨
  (e = .returned (.pointer none) ∧ ∃ (m : List Int) (tr : List Nat) (tv : Value) (L : Nat → List Nat) (EV : Nat → Value) (E : Nat → List (Nat × Nat)), Mem Λ w m tr tv L EV E ∧ Abs Λ.K T Bot m tr L E ∧ Pen Λ.K m L (qu []) ∧ Ext m0 m ∧ ∃ x, tr = tr0 ++ x)

section
variable {Λ : Lay} {w w' : World} {m m' : List Int} {tr tr' : List Nat} {tv tv' : Value} {L L' : Nat → List Nat} {EV EV' : Nat → Value} {E E' : Nat → List (Nat × Nat)}

set_option maxRecDepth 100000 in
set_option maxHeartbeats 1000000 in
theorem prp_mem (ok : LayOk Λ) {T : Thy} {Bot : Prop} {ptr : Nat} {v : Int} (hv1 : 1 ≤ v) (hv2 : v ≤ 1000) (hp2 : ptr ≤ 200) (hf : Fin Λ T Bot ptr m tr w) :
    Calls Try.prog 46 #[.pointer (some ⟨Λ.s, 0, none⟩), .int .i64 (ptr : Int), .int .i64 v] w (PrpPost Λ T Bot m tr) := by
  have HF := Lib.hid hf
  clear hf
  go_enter Try.func46, Try.ntmps46
  go_wp2_with fail
  go_loopg [1] (200 - ptr) (fun gk p wr => ∃ pp : Nat, p = .int .i64 (pp : Int) ∧ pp + gk = 200 ∧ Fin Λ T Bot pp m tr wr)
  case atStart => exact ⟨ptr, rfl, by omega, HF.out⟩
  case round =>
    obtain ⟨pp, rfl, hgk, m1, tr1, tv1, L1, EV1, E1, hm, ha, hp, hx, htr⟩ := hrel
    clear HF
    have HG := Lib.hid hgk
    have hbn := ha.bnd
    obtain ⟨sa, scap, htv, hcap, hmx, hsa⟩ := own_form hm.trail
    have f1 := hm.c14
    rw [htv] at f1
    have HM := Lib.hid hm
    have HA := Lib.hid ha
    have HP := Lib.hid hp
    have HX := Lib.hid hx
    have HT := Lib.hid htr
    have HTV := Lib.hid htv
    clear hgk hm ha hp hx htr htv
    by_cases hlt : pp < tr1.length
    · obtain ⟨g, rfl⟩ := hsa (by omega)
      clear hsa
      obtain ⟨lit, hlt'⟩ : ∃ e, tr1[pp]? = some e := ⟨_, List.getElem?_eq_getElem hlt⟩
      obtain ⟨hlit, hlt2⟩ := HA.out.trt lit (List.mem_of_getElem? hlt')
      have ho := HM.out.trail
      rw [HTV.out] at ho
      obtain ⟨_, _, e1, c1, _⟩ := own_cell ho (i := pp) (u := litV lit) (by simp [hlt'])
      injection e1 with e1
      injection e1 with e1
      injection e1 with e1
      subst e1
      clear ho
      unfold litV at c1
      have f2 := HM.out.c8
      have f3 := HM.out.hBc hlit
      obtain ⟨ba, bcap, hbv, hbc, hbmx, hba⟩ := own_form (HM.out.own (lit + 16) (by omega))
      rw [hbv] at f3
      have hl0 : (0 : Int) ≤ (lit : Int) := by omega
      have hl1 : (lit : Int) < 16 := by omega
      have HLt := Lib.hid hlt'
      have HL2 := Lib.hid hlt2
      have HBV := Lib.hid hbv
      have HBa := Lib.hid hba
      clear hlt' hlt2 hbv hba
      have hR : BinR Λ T Bot lit pp m1 tr1 L1 EV1 E1 0 wr := ⟨m1, tr1, tv1, HM.out, HA.out, bin_begin HA.out HP.out HLt.out, .refl _, [], by simp⟩
      have HR := Lib.hid hR
      clear hR
      go_upto_block 2 with fail
      go_cut [] (fun wx => BinR Λ T Bot lit pp m1 tr1 L1 EV1 E1 (E1 (lit + 16)).length wx)
      case first =>
        clear f1 f2 f3 c1
        go_wp2_with fail
        go_loopg [40] ((E1 (lit + 16)).length) (fun gk2 idx wk => ∃ i : Nat, idx = .int .i64 (i : Int) ∧ i + gk2 = (E1 (lit + 16)).length ∧ BinR Λ T Bot lit pp m1 tr1 L1 EV1 E1 i wk)
        case atStart => exact ⟨0, rfl, by omega, HR.out⟩
        case round =>
          obtain ⟨i, rfl, hgk2, hr⟩ := hrel
          have HG2 := Lib.hid hgk2
          clear hgk2
          by_cases hlti : i < (E1 (lit + 16)).length
          · obtain ⟨gb, hgb⟩ := HBa.out (by omega)
            subst hgb
            obtain ⟨m2, tr2, tv2, hm, ha, hp, hx, htr⟩ := hr
            obtain ⟨e, he⟩ : ∃ e, (E1 (lit + 16))[i]? = some e := ⟨_, List.getElem?_eq_getElem hlti⟩
            obtain ⟨hk, hL⟩ := ha.bin lit hlit e (List.mem_of_getElem? he)
            have ho16 : e.1 < 16 := (ha.ok _ hk).rng _ (by rcases hL with h | h <;> rw [h] <;> simp)
            obtain ⟨c1, c2, cf, _, hg⟩ := hm.entry (by omega) HBV.out he
            have hm0 := hm.alloc ok (.cells #[litV e.1, .pointer (some ⟨Λ.cb e.2, 0, none⟩)] 110)
            have HMk := Lib.hid hm0
            have HMo := Lib.hid hm
            have HE := Lib.hid he
            have HA2 := Lib.hid ha
            have HP2 := Lib.hid hp
            have HX2 := Lib.hid hx
            have HT2 := Lib.hid htr
            have HL := Lib.hid hL
            have hin : i < 9223372036854775807 := by unfold maxLen at hbmx; omega
            clear hm hm0 ha hp hx htr he hL cf
            unfold litV at c1
            go_wp2_with fail
            refine (var_any _ _ ho16).mono ?_
            rintro e' w' ⟨rfl, rfl⟩
            have hrow : Row (wr.alloc (.cells #[litV e.1, .pointer (some ⟨Λ.cb e.2, 0, none⟩)] 110)) wr.heap.size 110 [litV e.1, .pointer (some ⟨Λ.cb e.2, 0, none⟩)] := Row.new wr 110 _
            unfold litV at hrow
            obtain ⟨w9, hw9⟩ : ∃ w9, w9 = wr.alloc (.cells #[.int .i32 (e.1 : Int), .pointer (some ⟨Λ.cb e.2, 0, none⟩)] 110) := ⟨_, rfl⟩
            unfold litV at HMk
            rw [← hw9] at hrow HMk ⊢
            clear hw9 c1 c2 HMo
            obtain ⟨B9, hB9⟩ : ∃ B9, B9 = wr.heap.size := ⟨_, rfl⟩
            rw [← hB9] at hrow
            have HRow := Lib.hid hrow
            have d1 : w9.cell? ⟨B9, 0, none⟩ = some (.int .i32 (e.1 : Int)) := hrow.cell rfl
            have d2 : w9.cell? ⟨B9, 1, none⟩ = some (.pointer (some ⟨Λ.cb e.2, 0, none⟩)) := hrow.cell rfl
            rw [← hB9]
            clear hB9 hrow
            have f1 := HMk.out.c15
            have f2 := HMk.out.mc (v := e.1 / 2) (by omega)
            have v0 : (0 : Int) ≤ (e.1 : Int) / 2 := by omega
            have v1 : (e.1 : Int) / 2 < 8 := by omega
            have v2 : ((e.1 : Int) / 2).toNat = e.1 / 2 := by omega
            have hlv : lv m2 e.1 = sgn e.1 (m2.getD (e.1 / 2) 0) := rfl
            generalize m2.getD (e.1 / 2) 0 = x at f2 hlv
            have HLV := Lib.hid hlv
            clear hlv
            by_cases hx0 : x = 0
            · subst hx0
              obtain ⟨rx, r2⟩ := HMk.out.rc (v := e.1 / 2) (by omega)
              have r3 := HMk.out.rf (e.1 / 2)
              have r1 := HMk.out.c20
              go_wp2_with fail
              refine wp_region_lex (fun w' => w'.cell? ⟨Λ.s, 20, none⟩ = some (.slice (some ⟨Λ.br, 0, none⟩) 8 8) ∧ w'.cell? ⟨B9, 1, none⟩ = some (.pointer (some ⟨Λ.cb e.2, 0, none⟩)))
                [false, false, false, false, false, false, false] (by kernel_rfl) (by kernel_rfl) ⟨r1, d2⟩ ?_
              iterate 7
                refine lex_take (v := ?_) (.inl ⟨by rfl, ?_⟩) (fun _ _ _ h => h) ?_
                rotate_left
                · (intro w hSw; (try dsimp only at hSw); go_simp; try with_reducible rfl)
                simp only [Act.put, List.setIfInBounds_toArray, List.set]
              refine lex_tail ?_
              go_wp2_with fail
              have hm10 := (HMk.out.setReason ok (e.1 / 2) (.pointer (some ⟨Λ.cb e.2, 0, none⟩))).drew ok
              have hr10 : Row (w9.setCell ⟨Λ.br, e.1 / 2, none⟩ (.pointer (some ⟨Λ.cb e.2, 0, none⟩))).drew B9 110 [.int .i32 (e.1 : Int), .pointer (some ⟨Λ.cb e.2, 0, none⟩)] := by
                obtain ⟨rs, rr, _⟩ := HMk.out.reason
                exact (HRow.out.kept (grownBy_setCell w9 ⟨Λ.br, e.1 / 2, none⟩ _) (fun h => HRow.out.ne rr (by decide) (by injection h with h; exact h.symm))).drew
              obtain ⟨w10, e10⟩ : ∃ w10, w10 = (w9.setCell ⟨Λ.br, e.1 / 2, none⟩ (.pointer (some ⟨Λ.cb e.2, 0, none⟩))).drew := ⟨_, rfl⟩
              rw [← e10] at hm10 hr10 ⊢
              clear e10 f1 f2 r1 r2 r3 d1 d2 HRow HMk
              have f1 := hm10.c15
              have d1 : w10.cell? ⟨B9, 0, none⟩ = some (.int .i32 (e.1 : Int)) := hr10.cell rfl
              have f2 := hm10.mc (v := e.1 / 2) (by omega)
              have f3 := hm10.mf (e.1 / 2)
              generalize m2.getD (e.1 / 2) 0 = y at f2
              have HM10 := Lib.hid hm10
              have HR10 := Lib.hid hr10
              have q1 : ¬ Λ.bm = Λ.s := Ne.symm hm10.s_bm
              have q2 : ¬ Λ.bm = B9 := hm10.model.ne hr10 (by decide)
              clear hm10 hr10
              go_region_held3 (fun w' => w'.cell? ⟨Λ.s, 15, none⟩ = some (.slice (some ⟨Λ.bm, 0, none⟩) 8 8) ∧ w'.cell? ⟨B9, 0, none⟩ = some (.int .i32 (e.1 : Int))) (go_keep) (first | (go_at_call 45; refine (signed_any _ _ _ ho16 (by omega) hv2).mono ?_; rintro e' w' ⟨rfl, rfl⟩))
              have hm11 := (HM10.out.setModel ok (e.1 / 2) (sgn e.1 v)).drew ok
              have hr11 : Row (w10.setCell ⟨Λ.bm, e.1 / 2, none⟩ (.int .i64 (sgn e.1 v))).drew B9 110 [.int .i32 (e.1 : Int), .pointer (some ⟨Λ.cb e.2, 0, none⟩)] :=
                (HR10.out.kept (grownBy_setCell w10 ⟨Λ.bm, e.1 / 2, none⟩ _) (fun h => q2 (by injection h))).drew
              obtain ⟨w11, e11⟩ : ∃ w11, w11 = (w10.setCell ⟨Λ.bm, e.1 / 2, none⟩ (.int .i64 (sgn e.1 v))).drew := ⟨_, rfl⟩
              rw [← e11] at hm11 hr11 ⊢
              clear e11 f1 f2 f3 q1 q2 d1 HM10 HR10
              have f1 := hm11.c14
              have d1 : w11.cell? ⟨B9, 0, none⟩ = some (.int .i32 (e.1 : Int)) := hr11.cell rfl
              obtain ⟨i0, hi0, hz0, hz1, hz2⟩ := info_parts Try.info90
              have hb2 := HA2.out.bnd
              go_wp2_with fail
              refine wp_region_lex (fun w' => w'.cell? ⟨Λ.s, 14, none⟩ = some tv2 ∧ w'.cell? ⟨B9, 0, none⟩ = some (.int .i32 (e.1 : Int)))
                [false, false, false, false, false, false, false, true, true] (by kernel_rfl) (by kernel_rfl) ⟨f1, d1⟩ ?_
              iterate 7
                refine lex_take (v := ?_) (.inl ⟨by rfl, ?_⟩) (fun _ _ _ h => h) ?_
                rotate_left
                · (intro w hSw; (try dsimp only at hSw); go_simp; try with_reducible rfl)
                simp only [Act.put, List.setIfInBounds_toArray, List.set]
              refine lex_act (fun K hK => ?_)
              go_simp
              have hm12 := (hm11.alloc ok (.cells #[.int .i32 (e.1 : Int)] 90)).drew ok
              have hr12 := (hr11.alloc (.cells #[.int .i32 (e.1 : Int)] 90)).drew
              refine hK _ _ ⟨hm12.c14, hr12.cell rfl⟩ ?_
              clear hK K
              refine lex_act (fun K hK => ?_)
              refine step_append_lies _ rfl _ _ 61 (by rfl) Λ.Bt 90 i0 (.int .i32 0) 1 4 Try.underlying61 hi0 hz0 hz1 hz2 rfl (by decide) _ _ _ (by rfl) hm12.trail ⟨w11.heap.size, 0, none⟩ 1 1 [.int .i32 (e.1 : Int)] (by rfl) rfl ?c1 ?c2 (by decide) ?c3 ?c4 ?c5 _ rfl ?_
              case c1 =>
                intro j u hj
                match j, hj with
                | 0, hj => simp at hj; subst hj; simp [go_sem, Addr.add]
              case c2 => intro u hu; simp at hu; subst hu; rfl
              case c3 => unfold maxLen; omega
              case c4 => omega
              case c5 => exact hm12.bt
              intro g13 cap13 w13 hown13 hgrow13 _ _
              have hc13 := Chg.ofOwn hm12.trail hgrow13
              obtain ⟨C13, rC, hC⟩ := hm12.solver
              have t1 := (hc13.row rC (by decide)).cell hC.c14
              have t1f := (hc13.row rC (by decide)).frozen 14
              refine hK _ _ ⟨t1, (hc13.row hr12 (by decide)).cell rfl⟩ ?_
              clear hK K
              refine lex_tail ?_
              have hm13 := trail_step ok hm12 (l := e.1) hgrow13 hown13
              have HM13 := Lib.hid hm13
              clear hm13 hc13 hC rC hm12 hr12 hm11 hr11 hown13 hgrow13 d1
              go_wp2_with fail
              go_roundg (gk - 1)
              case measure => have := HG2.out; omega
              case rel =>
                refine ⟨i + 1, by go_num, by have := HG2.out; omega, ?_⟩
                have hlt1 : tru m2 lit := by
                  obtain ⟨x, hx⟩ := HT2.out
                  exact (HA2.out.trt lit (by rw [hx]; exact List.mem_append_left _ (List.mem_of_getElem? HLt.out))).2
                refine bin_unit hlit ?_ ho16 HM13.out HA2.out HP2.out HX2.out HT2.out HE.out hlt1 (by rw [HLV.out]; exact (sgn_zero _ _).2 rfl) (by omega)
                obtain ⟨x, hx⟩ := HT2.out
                rw [hx, List.length_append]; omega
            · have hxb : (x == 0) = false := by simpa using hx0
              go_wp2_with fail
              refine (pos_any _ _ ho16).mono ?_
              rintro e' w' ⟨rfl, rfl⟩
              by_cases hcf : fls m2 e.1
              · have hcc : (!decide (0 < x) == decide (e.1 % 2 = 0)) = true := by
                  rw [conf_bit hx0, ← HLV.out]; simpa [fls] using hcf
                go_wp2_with fail
                go_ret
                refine .inl ⟨_, rfl, bin_confl HA2.out hlit (List.mem_of_getElem? HE.out) ?_ hcf, HMk.out.weak⟩
                obtain ⟨x, hx⟩ := HT2.out
                exact (HA2.out.trt lit (by rw [hx]; exact List.mem_append_left _ (List.mem_of_getElem? HLt.out))).2
              · have hcc : (!decide (0 < x) == decide (e.1 % 2 = 0)) = false := by
                  rw [conf_bit hx0, ← HLV.out]; simpa [fls] using hcf
                go_wp2_with fail
                go_roundg (gk - 1)
                case measure => have := HG2.out; omega
                case rel =>
                  refine ⟨i + 1, by go_num, by have := HG2.out; omega, ?_⟩
                  refine bin_sat hlit HMk.out HA2.out HP2.out HX2.out HT2.out HE.out ?_
                  unfold tru fls at *
                  have h1 := HLV.out
                  have h2 : sgn e.1 x ≠ 0 := fun h => hx0 ((sgn_zero _ _).1 h)
                  omega
          · go_wp2_with fail
            go_meet
            have : i = (E1 (lit + 16)).length := by have := HG2.out; omega
            rw [← this]; exact hr
      case rest =>
        go_wp2_with fail
        obtain ⟨m2, tr2, tv2, hm, ha, hp, hx, htr⟩ := hcut
        have hpl : tr2[pp]? = some lit := by
          obtain ⟨x, rfl⟩ := htr
          rw [List.getElem?_append_left hlt]; exact HLt.out
        refine (spc_mem ok hlit hv1 hv2 hm ha hpl (bin_end ha hp (Nat.le_refl _))).mono ?_
        rintro e' w2 (⟨p, rfl, hbot, hweak⟩ | ⟨rfl, hfin⟩)
        · have HW := Lib.hid hweak
          clear hm ha hp hx htr hpl hweak
          go_wp2_with fail
          go_ret
          exact .inl ⟨p, rfl, hbot, HW.out⟩
        · have hF : Fin Λ T Bot (pp + 1) m tr w2 := by
            obtain ⟨m3, tr3, tv3, L3, EV3, E3, h1, h2, h3, h4, ⟨y, h5⟩⟩ := hfin
            obtain ⟨z, h6⟩ := htr
            obtain ⟨u, h7⟩ := HT.out
            exact ⟨m3, tr3, tv3, L3, EV3, E3, h1, h2, h3, (HX.out.trans hx).trans h4, u ++ z ++ y, by rw [h5, h6, h7]; simp⟩
          have t1 : w2.cell? ⟨Λ.s, 10, none⟩ = some (.slice (some ⟨Λ.bp, 0, none⟩) 16 16) := let ⟨_, _, _, _, _, _, h1, _⟩ := hF; h1.c10
          have t2 : w2.cell? ⟨Λ.s, 11, none⟩ = some (.slice (some ⟨Λ.ba, 0, none⟩) 16 16) := let ⟨_, _, _, _, _, _, h1, _⟩ := hF; h1.c11
          have t3 : w2.cell? ⟨Λ.bp, lit, none⟩ = some (.slice none 0 0) := let ⟨_, _, _, _, _, _, h1, _⟩ := hF; h1.pc hlit
          have t4 : w2.cell? ⟨Λ.ba, lit, none⟩ = some (.slice none 0 0) := let ⟨_, _, _, _, _, _, h1, _⟩ := hF; h1.ac hlit
          have HFin := Lib.hid hF
          clear hm ha hp hx htr hpl hfin hF f1 f2 f3 c1
          go_wp2_with fail
          go_loopg [110] 0 (fun gk3 idx wk => idx = .int .i64 0 ∧ wk = w2)
          case atStart => exact ⟨rfl, rfl⟩
          case round =>
            obtain ⟨rfl, hwe⟩ := hrel
            subst hwe
            go_wp2_with fail
            go_loopg [138] 0 (fun gk3 idx wk => idx = .int .i64 0 ∧ wk = wr)
            case atStart => exact ⟨rfl, rfl⟩
            case round =>
              obtain ⟨rfl, hwe⟩ := hrel
              subst hwe
              go_wp2_with fail
              go_roundg (200 - (pp + 1))
              case measure => have := HG.out; omega
              case rel => exact ⟨pp + 1, by go_num, by omega, HFin.out⟩
    · go_wp2_with fail
      go_ret
      refine .inr ⟨rfl, m1, tr1, tv1, L1, EV1, E1, HM.out, HA.out, ?_, HX.out, HT.out⟩
      have := HP.out
      rwa [List.drop_eq_nil_of_le (by omega)] at this
end
end Go.Proofs.Ytiimddkopiknpaa
