/- initWatcherList: the contract ini_mem. -/
import Derived.Test.YtiimddkopiknpaaIniB
import Derived.Deep.LoopGhost
import Derived.Deep.DeepCutAuto
import Derived.Deep.CutBlock
import Derived.Test.YtiimddkopiknpaaOG2
namespace Go.Proofs.Ytiimddkopiknpaa
open Go.RowKit
attribute [local go_sem ↓] Go.wp_at_zero Go.wp_at_succ

section
variable {Λ : Lay} {w w' : World} {C : List Value} {m : List Int} {tr : List Nat} {tv : Value} {L : Nat → List Nat}

set_option maxRecDepth 100000 in
set_option maxHeartbeats 1000000 in
theorem ini_mem (ok : LayOk Λ) {cv : Value} {B : Nat} (h : Pre Λ w C m tr tv L) (hcl : ∀ k, k < Λ.K → ClOk (L k) ∧ 2 ≤ (L k).length) (hcv : w.ownsRow B 50 1 cv Λ.K (ptrs Λ.cb (List.range Λ.K))) :
    Calls Try.prog 41 #[.pointer (some ⟨Λ.s, 0, none⟩), cv] w fun e w' => e = .returned (.tuple #[]) ∧ ∃ bb bh bp ba EV C', LayOk (Λ.wl bb bh bp ba) ∧ Mem (Λ.wl bb bh bp ba) w' m tr tv L EV (Ews L Λ.K) ∧
      Row w' Λ.s 78 C' ∧ (∀ i, i < 6 ∨ 14 ≤ i → C'[i]? = C[i]?) ∧ Keep3 w w' := by
  have hK := ok.hK
  have hmk := mk_row 58 50 (.pointer none) 8 Try.underlying58 Try.info50 rfl Λ.K (by omega) (by omega)
  obtain ⟨a, cap, hcve, hcap, hmx, ha⟩ := own_form hcv
  obtain ⟨i0, hi0, hz0, hz1, hz2⟩ := info_parts Try.info50
  have H := Lib.hid h
  have HCV := Lib.hid hcv
  have HCl := Lib.hid hcl
  subst hcve
  clear h hcv hcl
  have hcopy : ∃ w2, (Builtin.copy_ #[58, 58] 3 #[.slice (some ⟨w.heap.size, 0, none⟩) Λ.K Λ.K, .slice a Λ.K cap]).run Try.prog (w.alloc (.cells (Array.replicate Λ.K (.pointer none)) 50)) = .ok (goInt (Nat.min Λ.K Λ.K)) w2 ∧ w.grownBy w2 none := by
    have hlen : (ptrs Λ.cb (List.range Λ.K)).length = Λ.K := by simp [ptrs]
    refine ⟨_, run_copy_size (P := Try.prog) (w.alloc (.cells (Array.replicate Λ.K (.pointer none)) 50)) 58 58 3 50 i0 Try.underlying58 hi0 w.heap.size 0 Λ.K Λ.K (Array.replicate Λ.K (.pointer none)) 50 (heap_alloc_new w _) a Λ.K cap (ptrs Λ.cb (List.range Λ.K)) ?_ ?_ ?_ ?_ ?_, ?_⟩
    · rw [hlen, hz1, Nat.mul_one]; exact (Nat.min_self _).symm
    · intro hn
      rcases HCV.out.2 with ⟨_, e⟩ | ⟨_, _, _, e, _⟩
      · rw [e]; rfl
      · injection e with e; rw [hn] at e; cases e
    · intro b hb j v hj
      obtain ⟨g, cap', e, hc, _, _, _⟩ := own_cell HCV.out hj
      injection e with e _ _
      rw [hb] at e
      injection e with e
      subst e
      have h1 : (⟨g, 0, none⟩ : Addr).add j = ⟨g, j, none⟩ := by unfold Addr.add; split <;> simp_all
      rw [h1, World.cell?_alloc_some _ _ _ (by rw [hc]; rfl)]
      exact hc
    · rw [hlen]; simp
    · intro v hv
      obtain ⟨k, _, rfl⟩ := List.mem_map.1 hv
      rfl
    · exact grownBy_none_of (b := w.heap.size) (grownBy_trans (grownBy_weaken (World.grownBy_alloc w _ none) _) (grownBy_setRow _ w.heap.size _)) (Nat.le_refl _)
  obtain ⟨w2, hcopy, hg2⟩ := hcopy
  have H2 := Lib.hid (H.out.grown ok hg2)
  have HCV2 := Lib.hid (HCV.out.kept hg2 (by cases (Value.slice a Λ.K cap).ownBlock <;> simp))
  have HG2 := Lib.hid hg2
  clear hg2
  have f4 := H2.out.solver.cell H2.out.c4
  have f6 : ∀ i, w2.frozen? ⟨Λ.s, i, none⟩ = false := fun i => H2.out.solver.frozen i
  go_enter Try.func41, Try.ntmps41
  go_wp2_with fail
  clear hcopy hmk
  refine wp_region_group (fun w' => w'.cell? ⟨Λ.s, 4, none⟩ = some (.int .i64 8)) 28 [(0, false), (1, false), (2, false), (3, false), (4, false), (5, false), (6, false), (8, false), (9, false), (10, false), (11, false), (12, false), (14, false), (15, false), (16, false), (17, false), (18, false), (20, false), (21, false), (22, false), (23, false), (24, false), (26, false)] (by kernel_rfl) (by kernel_rfl) f4 ?_
  iterate 23
    refine plan_takeL (v := ?_) rfl (.inl ⟨by rfl, ?_⟩) (fun _ _ _ h => h) ?_
    rotate_left
    · (intro w hSw; (try dsimp only at hSw); go_simp; try with_reducible rfl)
    simp only [Act.put, List.setIfInBounds_toArray, List.set]
  refine plan_nil ?_
  have hw16 : IntKind.i64.wrap 16 = 16 := IntWalk.i64_in _ (by omega)
  rw [hw16]
  have mk1 : ∀ w : World, (Instr.makeSlice 56 (.int .i64 16) (.int .i64 16)).run Try.prog w = .ok (.slice (some ⟨w.heap.size, 0, none⟩) 16 16) (w.alloc (.cells (Array.replicate 16 (.slice none 0 0)) 108)) := fun w => mk_row 56 108 (.slice none 0 0) 24 Try.underlying56 Try.info108 rfl 16 (by omega) (by omega) w
  have mk2 : ∀ w : World, (Instr.makeSlice 57 (.int .i64 16) (.int .i64 16)).run Try.prog w = .ok (.slice (some ⟨w.heap.size, 0, none⟩) 16 16) (w.alloc (.cells (Array.replicate 16 (.slice none 0 0)) 58)) := fun w => mk_row 57 58 (.slice none 0 0) 24 Try.underlying57 Try.info58 rfl 16 (by omega) (by omega) w
  refine ⟨WJ w2.drew (.slice (some ⟨w.heap.size, 0, none⟩) Λ.K Λ.K), ?_, WJ.start _ _, ?_, ?_⟩
  · intro σ w3 hJ
    exact (H2.out.solver.drew.kept hJ.hg (by simp)).cell H2.out.c4
  · intro i o σ a w3 hi h0 ho hσ hJ hA hdep
    have key : ∀ i, i < 28 → (planEnd [(0, false), (1, false), (2, false), (3, false), (4, false), (5, false), (6, false), (8, false), (9, false), (10, false), (11, false), (12, false), (14, false), (15, false), (16, false), (17, false), (18, false), (20, false), (21, false), (22, false), (23, false), (24, false), (26, false)] (Array.replicate 31 false)).getD i false = false → i = 7 ∨ i = 13 ∨ i = 19 ∨ i = 25 ∨ i = 27 := by decide
    rcases key i hi h0 with rfl | rfl | rfl | rfl | rfl
    · have e := ho.symm.trans (rfl : _ = some _)
      injection e with e
      subst e
      refine wpOp_make ho rfl rfl (vl := .int .i64 16) (vc := .int .i64 16) ((hA.eval_old hJ.dom 20 (by kernel_rfl)).trans (by rfl)) ((hA.eval_old hJ.dom 20 (by kernel_rfl)).trans (by rfl)) (mk1 w3) ⟨_, rfl, hJ.make (.inl rfl) hσ 108 rfl⟩
    · have e := ho.symm.trans (rfl : _ = some _)
      injection e with e
      subst e
      refine wpOp_make ho rfl rfl (vl := .int .i64 16) (vc := .int .i64 16) ((hA.eval_old hJ.dom 26 (by kernel_rfl)).trans (by rfl)) ((hA.eval_old hJ.dom 26 (by kernel_rfl)).trans (by rfl)) (mk1 w3) ⟨_, rfl, hJ.make (.inr (.inl rfl)) hσ 108 rfl⟩
    · have e := ho.symm.trans (rfl : _ = some _)
      injection e with e
      subst e
      refine wpOp_make ho rfl rfl (vl := .int .i64 16) (vc := .int .i64 16) ((hA.eval_old hJ.dom 32 (by kernel_rfl)).trans (by rfl)) ((hA.eval_old hJ.dom 32 (by kernel_rfl)).trans (by rfl)) (mk2 w3) ⟨_, rfl, hJ.make (.inr (.inr (.inl rfl))) hσ 58 rfl⟩
    · have e := ho.symm.trans (rfl : _ = some _)
      injection e with e
      subst e
      refine wpOp_make ho rfl rfl (vl := .int .i64 16) (vc := .int .i64 16) ((hA.eval_old hJ.dom 38 (by kernel_rfl)).trans (by rfl)) ((hA.eval_old hJ.dom 38 (by kernel_rfl)).trans (by rfl)) (mk2 w3) ⟨_, rfl, hJ.make (.inr (.inr (.inr rfl))) hσ 58 rfl⟩
    · have e := ho.symm.trans (rfl : _ = some _)
      injection e with e
      subst e
      obtain ⟨v7, h7⟩ := Option.isSome_iff_exists.1 ((hdep { on := 7, ground := .data } (by simp) rfl).resolve_left (by decide))
      obtain ⟨v13, h13⟩ := Option.isSome_iff_exists.1 ((hdep { on := 13, ground := .data } (by simp) rfl).resolve_left (by decide))
      obtain ⟨v19, h19⟩ := Option.isSome_iff_exists.1 ((hdep { on := 19, ground := .data } (by simp) rfl).resolve_left (by decide))
      obtain ⟨v25, h25⟩ := Option.isSome_iff_exists.1 ((hdep { on := 25, ground := .data } (by simp) rfl).resolve_left (by decide))
      obtain ⟨b7, rfl, _⟩ := hJ.v7 v7 h7
      obtain ⟨b13, rfl, _⟩ := hJ.v13 v13 h13
      obtain ⟨b19, rfl, _⟩ := hJ.v19 v19 h19
      obtain ⟨b25, rfl, _⟩ := hJ.v25 v25 h25
      have e7 := hA.get_new h7 (t := 21) (by kernel_rfl) (by simp)
      have e13 := hA.get_new h13 (t := 27) (by kernel_rfl) (by simp)
      have e19 := hA.get_new h19 (t := 33) (by kernel_rfl) (by simp)
      have e25 := hA.get_new h25 (t := 39) (by kernel_rfl) (by simp)
      have e15 := hA.get_old hJ.dom 15 (v := .int .i64 2000) (by kernel_rfl) (by rfl)
      have e40 := hA.get_old hJ.dom 40 (v := .slice (some ⟨w.heap.size, 0, none⟩) Λ.K Λ.K) (by kernel_rfl) (by rfl)
      have hJ' := Lib.hid (hJ.build h7 h13 h19 h25)
      clear h7 h13 h19 h25 hA hJ hdep mk1 mk2 hw16
      refine wpOp_of ho fun K hK => ?_
      have HK := Lib.hid hK
      clear hK
      go_simp
      exact HK.out _ _ ⟨_, rfl, hJ'.out⟩
  · intro σ a' w3 hJ hA hall
    obtain ⟨x7, h7⟩ := Option.isSome_iff_exists.1 (hall 7 (by omega) (by decide))
    obtain ⟨x13, h13⟩ := Option.isSome_iff_exists.1 (hall 13 (by omega) (by decide))
    obtain ⟨x19, h19⟩ := Option.isSome_iff_exists.1 (hall 19 (by omega) (by decide))
    obtain ⟨x25, h25⟩ := Option.isSome_iff_exists.1 (hall 25 (by omega) (by decide))
    obtain ⟨x27, h27⟩ := Option.isSome_iff_exists.1 (hall 27 (by omega) (by decide))
    obtain ⟨b7, rfl, hb7, r7⟩ := hJ.v7 x7 h7
    obtain ⟨b13, rfl, hb13, r13⟩ := hJ.v13 x13 h13
    obtain ⟨b19, rfl, hb19, r19⟩ := hJ.v19 x19 h19
    obtain ⟨b25, rfl, hb25, r25⟩ := hJ.v25 x25 h25
    have hdif : b7 ≠ b13 := fun e => hJ.dif _ _ h7 h13 (by rw [e])
    obtain ⟨_, _, _, _, k7, k13, k19, k25, rfl⟩ := hJ.v27 x27 h27
    rw [h7] at k7; injection k7 with k7; subst k7
    rw [h13] at k13; injection k13 with k13; subst k13
    rw [h19] at k19; injection k19 with k19; subst k19
    rw [h25] at k25; injection k25 with k25; subst k25
    have hae := hA.eq hJ.dom (by
      intro j hj
      simp only [List.mem_cons, List.not_mem_nil, or_false] at hj
      rcases hj with rfl | rfl | rfl | rfl | rfl
      · rw [h7]; rfl
      · rw [h13]; rfl
      · rw [h19]; rfl
      · rw [h25]; rfl
      · rw [h27]; rfl)
    have hg3 := grownBy_trans (grownBy_drew w2 none) hJ.hg
    have H3 := Lib.hid (H2.out.grown ok hg3)
    have HG3 := Lib.hid hg3
    simp only [List.foldl, List.getElem?_toArray, List.getElem?_cons_succ, List.getElem?_cons_zero, Option.bind_some, h7, h13, h19, h25, h27, Option.getD_some, Act.put, List.setIfInBounds_toArray, List.set] at hae
    subst hae
    clear hA hall h7 h13 h19 h25 h27 hJ hg3
    have hlen : 14 < C.length := (List.getElem?_eq_some_iff.1 H3.out.c14).1
    have cc : ∀ i, i < 14 → ∃ x, w3.cell? ⟨Λ.s, i, none⟩ = some x := fun i hi => ⟨_, H3.out.solver.cell (List.getElem?_eq_getElem (by omega))⟩
    obtain ⟨y6, c6⟩ := cc 6 (by omega)
    obtain ⟨y7, c7⟩ := cc 7 (by omega)
    obtain ⟨y8, c8⟩ := cc 8 (by omega)
    obtain ⟨y9, c9⟩ := cc 9 (by omega)
    obtain ⟨y10, c10⟩ := cc 10 (by omega)
    obtain ⟨y11, c11⟩ := cc 11 (by omega)
    obtain ⟨y12, c12⟩ := cc 12 (by omega)
    obtain ⟨y13, c13⟩ := cc 13 (by omega)
    have cf : ∀ i, w3.frozen? ⟨Λ.s, i, none⟩ = false := fun i => H3.out.solver.frozen i
    have g6 := cf 6
    have g7 := cf 7
    have g8 := cf 8
    have g9 := cf 9
    have g10 := cf 10
    have g11 := cf 11
    have g12 := cf 12
    have g13 := cf 13
    have HM := Lib.hid (H3.out.toMem ok (g := w.heap.size) r7 r13 r19 r25)
    have HRs := Lib.hid (wlW_row (bb := b7) (bh := b13) (bp := b19) (ba := b25) (g := w.heap.size) (K := Λ.K) H3.out.solver)
    have hbB : Λ.B0 ≤ b13 := Nat.le_trans (Nat.le_trans ok.b0 H2.out.bel.size) hb13
    have hbB7 : Λ.B0 ≤ b7 := Nat.le_trans (Nat.le_trans ok.b0 H2.out.bel.size) hb7
    clear cc cf r7 r13 r19 r25 hb7 hb13 hb19 hb25 mk1 mk2 hw16 f4 f6
    unfold wlW at HM HRs
    simp only [List.drop_succ_cons, List.drop_zero]
    go_wp2_with fail
    have hg4 := wlW_grown w3 Λ.s b7 b13 b19 b25 w.heap.size Λ.K
    unfold wlW at hg4
    obtain ⟨w4, hw4⟩ : ∃ w4, w4 = (((((((w3.setCell ⟨Λ.s, 6, none⟩ (.int .i64 2000)).setCell ⟨Λ.s, 7, none⟩ (.int .i64 1)).setCell ⟨Λ.s, 8, none⟩ (.slice (some ⟨b7, 0, none⟩) 16 16)).setCell ⟨Λ.s, 9, none⟩ (.slice (some ⟨b13, 0, none⟩) 16 16)).setCell ⟨Λ.s, 10, none⟩ (.slice (some ⟨b19, 0, none⟩) 16 16)).setCell ⟨Λ.s, 11, none⟩ (.slice (some ⟨b25, 0, none⟩) 16 16)).setCell ⟨Λ.s, 12, none⟩ (.slice (some ⟨w.heap.size, 0, none⟩) Λ.K Λ.K)).setCell ⟨Λ.s, 13, none⟩ (.slice none 0 0) := ⟨_, rfl⟩
    rw [← hw4] at HM HRs hg4 ⊢
    have hk4 : Keep3 w w4 := fun b e c _ _ h3 hr => ((hr.kept HG2.out (by simp)).kept HG3.out (by simp)).kept hg4 (by intro hh; injection hh with hh; exact (((hr.kept HG2.out (by simp)).kept HG3.out (by simp)).ne H3.out.solver h3) hh.symm)
    have hcv4 : w4.ownsRow B 50 1 (.slice a Λ.K cap) Λ.K (ptrs Λ.cb (List.range Λ.K)) := by
      have h1 := HCV2.out.kept HG3.out (by cases (Value.slice a Λ.K cap).ownBlock <;> simp)
      refine h1.kept hg4 (.inr fun hh => ?_)
      exact own_ne h1 H3.out.solver (.inl (by decide)) hh
    have hdb4 : ∀ k, k < Λ.K → ClauseAt w4 (Λ.cb k) (Λ.lb k) (L k) 0 := by
      intro k hk
      have a := H3.out.db k hk
      obtain ⟨_, _, _, a2⟩ := a.hdr
      obtain ⟨_, a3⟩ := a.row
      refine a.kept hg4 ?_ ?_
      · intro hh; injection hh with hh; exact a2.ne H3.out.solver (by decide) hh.symm
      · intro hh; injection hh with hh; exact a3.ne H3.out.solver (by decide) hh.symm
    have HK4 := Lib.hid hk4
    have HCV4 := Lib.hid hcv4
    have HDb := Lib.hid hdb4
    have ok' := ok.wl (bb := b7) (bh := b13) (bp := b19) (ba := b25) hdif hbB
    clear hw4 hg4 hk4 hcv4 hdb4 c6 c7 c8 c9 c10 c11 c12 c13 g6 g7 g8 g9 g10 g11 g12 g13
    go_loopg [46] Λ.K (fun gk jv wr => ∃ (j : Nat) (EV : Nat → Value), jv = .int .i64 (j : Int) ∧ j + gk = Λ.K ∧ Mem (Λ.wl b7 b13 b19 b25) wr m tr tv L EV (Ews L j) ∧ KeepRows w4 wr)
    case atStart => exact ⟨0, _, rfl, by omega, HM.out, KeepRows.refl _⟩
    case round =>
      obtain ⟨j, EV, rfl, hgk, hm, hkr⟩ := hrel
      clear HM
      have HG := Lib.hid hgk
      have HM := Lib.hid hm
      have HKR := Lib.hid hkr
      clear hgk hm hkr
      by_cases hj : j < Λ.K
      · obtain ⟨ga, rfl⟩ := ha (by omega)
        obtain ⟨_, _, e1, q1, _, _, _⟩ := own_cell (HKR.out.own HCV4.out (by decide) (by decide)) (i := j) (u := .pointer (some ⟨Λ.cb j, 0, none⟩)) (by simp [ptrs, hj])
        injection e1 with e1 _ e3
        injection e1 with e1
        injection e1 with e1
        subst e1 e3
        obtain ⟨hok, h2⟩ := HCl.out j hj
        have e0 : (L j)[0]? = some ((L j).getD 0 0) := by rw [List.getD_eq_getElem?_getD, List.getElem?_eq_getElem (by omega)]; rfl
        have e1 : (L j)[1]? = some ((L j).getD 1 0) := by rw [List.getD_eq_getElem?_getD, List.getElem?_eq_getElem (by omega)]; rfl
        have hW := Ews_ok L j (fun k hk => HCl.out k (by omega))
        have HW := Lib.hid hW
        have E0 := Lib.hid e0
        have E1 := Lib.hid e1
        clear hW e0 e1
        go_wp2_with fail
        refine (watch_mem (Λ := Λ.wl b7 b13 b19 b25) ok' (some_le hbB7) HM.out (HKR.out.clause (HDb.out j hj)) hok E0.out E1.out (fun z _ => by have := HW.out.lens z; omega)).mono ?_
        rintro e' w5 ⟨rfl, EV', hm5, hk5⟩
        have HM5 := Lib.hid hm5
        have HK5 := Lib.hid hk5
        clear hm5 hk5
        go_wp2_with fail
        go_roundg (gk - 1)
        case measure => have := HG.out; omega
        case rel => exact ⟨j + 1, EV', by go_num, by have := HG.out; omega, HM5.out, HKR.out.trans HK5.out⟩
      · go_wp2_with fail
        go_end0
        have hjk : j = Λ.K := by have := HG.out; omega
        subst hjk
        refine ⟨rfl, b7, b13, b19, b25, EV, _, ok', HM.out, HKR.out _ _ _ (by decide) (by decide) HRs.out, fun i hi => wlC_out _ _ _ _ _ _ _ _ hi, fun b e c h1 h2 h3 hr => HKR.out _ _ _ h1 h2 (HK4.out _ _ _ h1 h2 h3 hr)⟩
end
end Go.Proofs.Ytiimddkopiknpaa
