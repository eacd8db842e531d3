/- New: the contract new_mem. -/
import Derived.Test.YtiimddkopiknpaaNewA
import Derived.Test.YtiimddkopiknpaaNewJ
import Derived.Test.YtiimddkopiknpaaNewC
namespace Go.Proofs.Ytiimddkopiknpaa
open Go.RowKit
attribute [local go_sem ↓] Go.wp_at_zero Go.wp_at_succ

theorem Try.info4 : (Try.prog.info? 4).map (fun i => (i.zero, i.size, i.bytes)) = some (some (.bool false), 1, 1) := by kernel_rfl
theorem Try.info67 : (Try.prog.info? 67).map (fun i => (i.zero, i.size, i.bytes)) = some (some (.float .f64 0), 1, 8) := by kernel_rfl
theorem mk_row2 (t e : TypeId) (z : Value) (bytes : Nat) (ht : Try.prog.underlying t = some (.slice e)) (hinfo : (Try.prog.info? e).map (fun i => (i.zero, i.size, i.bytes)) = some (some z, 1, bytes)) (hz1 : z.cells = #[z]) (n c : Nat) (hnc : n ≤ c) (hb : bytes ≤ 100) (h63 : c ≤ 1000) (w : World) :
    (Instr.makeSlice t (.int .i64 (n : Int)) (.int .i64 (c : Int))).run Try.prog w = .ok (.slice (some ⟨w.heap.size, 0, none⟩) n c) (w.alloc (.cells (Array.replicate c z) e)) := by
  obtain ⟨i, hi, hzz⟩ := Option.map_eq_some_iff.1 hinfo
  simp only [Prod.mk.injEq] at hzz
  obtain ⟨hz, hs, hbb⟩ := hzz
  have h1 : (i.bytes : Int) * (c : Int) ≤ 281474976710656 := by
    have : (i.bytes : Int) * (c : Int) ≤ 100 * 1000 := by
      rw [hbb]
      exact Int.mul_le_mul (by omega) (by omega) (by omega) (by omega)
    omega
  have hr := run_make (P := Try.prog) w t e i z ht hi hz .i64 .i64 (n : Int) (c : Int) (by omega) (by omega) h1 (by omega)
  simp only [Int.toNat_natCast, hs, Nat.mul_one, hz1] at hr
  rw [hr, made_rep]

theorem wpOp_build {P : Program} {ops : Array Oper} {Q : Exit → Act → World → Prop} {i : Nat} {o : Oper} {a : Act} {w : World} {C : Act → World → Prop} (ho : ops[i]? = some o) (hg : o.guard = none) {t : TypeId} {ps : Array (Nat × Operand)} (hop : o.op = .build t ps) {vs : Array (Nat × Value)}
    (hv : (ps.map fun p => (p.1, a.eval p.2)) = vs) {v : Value} {w' : World} (hrun : (Instr.build t vs).run P w = .ok v w') (hC : C (a.put o.dst v) w') : wpOp P ops Q i C a w := by
  refine wpOp_of ho fun K hK => ?_
  have hw : Region.wanted o (yielded ops a.tmps) = true := by simp [Region.wanted, hg]
  rw [if_pos hw]
  subst hv
  unfold Oper.wp
  simp [execOp, hop, hrun, Result.andThen]
  exact hK _ _ hC

section
variable {Φ : PL} {w w' : World} {st : Int} {us : List Nat} {uv : Value} {CS : List Nat} {cv : Value} {K : Nat} {cb lb : Nat → Nat} {L : Nat → List Nat} {m : List Int} {bm : Nat}

def NewPost (Φ : PL) (C : List (List Nat)) (T : Nat → Prop) (Bot : Prop) (m : List Int) (us : List Nat) (e : Ending) (w : World) : Prop :=
  ∃ (Λ : Lay) (tv : Value) (L : Nat → List Nat) (EV : Nat → Value) (E : Nat → List (Nat × Nat)), e = .returned (.pointer (some ⟨Λ.s, 0, none⟩)) ∧ LayOk Λ ∧ Λ.w0 = Φ.w0 ∧ Λ.B0 = Φ.B0 ∧ Mem Λ w m us tv L EV E ∧ Abs Λ.K ⟨T, L⟩ Bot m us L E ∧ Pen Λ.K m L (qu []) ∧
    ∀ c ∈ C, SatC m c ∨ ∃ k, k < Λ.K ∧ Cov m (L k) c

set_option maxRecDepth 100000 in
set_option maxHeartbeats 1000000 in
theorem new_mem {C : List (List Nat)} {T : Nat → Prop} {Bot : Prop} (h : PMem Φ w st us uv CS cv K cb lb L (.slice (some ⟨bm, 0, none⟩) 8 8) m) (hst : st = 0 ∨ st = 1) (hab : PAbs C T Bot m us CS L) (hCS : ∀ k ∈ CS, k < K) (hlen : CS.length ≤ 20) (hO : Opn m CS L) :
    Calls Try.prog 31 #[.pointer (some ⟨Φ.p, 0, none⟩)] w (NewPost Φ C T Bot m us) := by
  have hus : us.length ≤ 100 := by have := hab.bnd; omega
  obtain ⟨ua, ucap, huv, huc, hum, hua⟩ := own_form h.units
  have p0 := h.pc (i := 0) rfl
  have p2 := h.pc (i := 2) rfl
  have p3 := h.pc (i := 3) rfl
  have p4 := h.pc (i := 4) rfl
  have p5 := h.pc (i := 5) rfl
  have p6 := h.pc (i := 6) rfl
  rw [huv] at p3
  have hstb : (st == 2) = false := by rcases hst with rfl | rfl <;> rfl
  have H := Lib.hid h
  have HUV := Lib.hid huv
  have HUA := Lib.hid hua
  clear h huv hua
  go_enter Try.func31, Try.ntmps31
  go_upto_if 26 with fail
  go_cut [4] (fun v wx => ∃ ct : Nat, v = .int .i64 (ct : Int) ∧ us.length ≤ ct ∧ ct ≤ 100 ∧ wx = w)
  case first =>
    by_cases hc : 8 < us.length
    · have hcb : (8 : Int) < (us.length : Int) := by omega
      go_wp2_with fail
      go_meet
      exact ⟨us.length, rfl, Nat.le_refl _, hus, rfl⟩
    · have hcb : ¬ (8 : Int) < (us.length : Int) := by omega
      go_wp2_with fail
      go_meet
      exact ⟨8, rfl, by omega, by omega, rfl⟩
  case rest =>
    obtain ⟨ct, rfl, hct1, hct2, hwe⟩ := hcut
    subst hwe
    go_wp2_with fail
    have m11 := mk_row2 61 90 (.int .i32 0) 4 Try.underlying61 Try.info90 rfl us.length ct hct1 (by omega) (by omega)
    have m17 : ∀ w : World, (Instr.makeSlice 64 (.int .i64 8) (.int .i64 8)).run Try.prog w = .ok (.slice (some ⟨w.heap.size, 0, none⟩) 8 8) (w.alloc (.cells (Array.replicate 8 (.float .f64 0)) 67)) := fun w => mk_row2 64 67 (.float .f64 0) 8 Try.underlying64 Try.info67 rfl 8 8 (by omega) (by omega) (by omega) w
    have m19 : ∀ w : World, (Instr.makeSlice 39 (.int .i64 8) (.int .i64 8)).run Try.prog w = .ok (.slice (some ⟨w.heap.size, 0, none⟩) 8 8) (w.alloc (.cells (Array.replicate 8 (.bool false)) 4)) := fun w => mk_row2 39 4 (.bool false) 1 Try.underlying39 Try.info4 rfl 8 8 (by omega) (by omega) (by omega) w
    have m23 : ∀ w : World, (Instr.makeSlice 58 (.int .i64 8) (.int .i64 8)).run Try.prog w = .ok (.slice (some ⟨w.heap.size, 0, none⟩) 8 8) (w.alloc (.cells (Array.replicate 8 (.pointer none)) 50)) := fun w => mk_row2 58 50 (.pointer none) 8 Try.underlying58 Try.info50 rfl 8 8 (by omega) (by omega) (by omega) w
    have m36 : ∀ w : World, (Instr.makeSlice 23 (.int .i64 8) (.int .i64 8)).run Try.prog w = .ok (.slice (some ⟨w.heap.size, 0, none⟩) 8 8) (w.alloc (.cells (Array.replicate 8 (.int .i64 0)) 3)) := fun w => mk_row2 23 3 (.int .i64 0) 8 Try.underlying23 Try.info3 rfl 8 8 (by omega) (by omega) (by omega) w
    refine wp_region_group (fun w' => w'.cell? ⟨Φ.p, 2, none⟩ = some (.int .u8 st) ∧ w'.cell? ⟨Φ.p, 3, none⟩ = some (.slice ua us.length ucap) ∧ w'.cell? ⟨Φ.p, 4, none⟩ = some (.slice (some ⟨bm, 0, none⟩) 8 8) ∧ w'.cell? ⟨Φ.p, 5, none⟩ = some (.slice none 0 0) ∧ w'.cell? ⟨Φ.p, 6, none⟩ = some (.slice none 0 0))
      43 [(0, false), (1, false), (2, false), (3, false), (4, false), (5, false), (6, false), (7, false), (8, false), (9, false), (10, false), (12, false), (13, false), (14, false), (15, false), (16, false), (18, false), (20, false), (22, false), (27, false), (28, false), (29, false), (30, false), (31, false), (32, false), (33, false), (34, false), (35, false), (37, false), (39, false)] (by kernel_rfl) (by kernel_rfl) ⟨p2, p3, p4, p5, p6⟩ ?_
    iterate 30
      refine plan_takeL (v := ?_) rfl (.inl ⟨by rfl, ?_⟩) (fun _ _ _ h => h) ?_
      rotate_left
      · (intro w hSw; (try dsimp only at hSw); go_simp; try with_reducible rfl)
      simp only [Act.put, List.setIfInBounds_toArray, List.set]
    refine plan_nil ?_
    refine ⟨NJ wc.drew us.length ct st bm, ?_, NJ.start, ?_, ?_⟩
    · intro σ w3 hJ
      have r3 := H.out.row.drew.kept hJ.hg (by simp)
      have hp := H.out.pc (i := 3) rfl
      refine ⟨r3.cell rfl, ?_, r3.cell rfl, r3.cell rfl, r3.cell rfl⟩
      rw [← HUV.out]; exact r3.cell rfl
    · intro i o σ a w3 hi h0 ho hσ hJ hA hdep
      have key : ∀ i, i < 43 → (planEnd [(0, false), (1, false), (2, false), (3, false), (4, false), (5, false), (6, false), (7, false), (8, false), (9, false), (10, false), (12, false), (13, false), (14, false), (15, false), (16, false), (18, false), (20, false), (22, false), (27, false), (28, false), (29, false), (30, false), (31, false), (32, false), (33, false), (34, false), (35, false), (37, false), (39, false)] (Array.replicate 44 false)).getD i false = false → i = 11 ∨ i = 17 ∨ i = 19 ∨ i = 21 ∨ i = 23 ∨ i = 24 ∨ i = 25 ∨ i = 26 ∨ i = 36 ∨ i = 38 ∨ i = 40 ∨ i = 41 ∨ i = 42 := by decide
      rcases key i hi h0 with rfl | rfl | rfl | rfl | rfl | rfl | rfl | rfl | rfl | rfl | rfl | rfl | rfl
      · have e := ho.symm.trans (rfl : _ = some _)
        injection e with e
        subst e
        refine wpOp_make ho rfl rfl (vl := .int .i64 (us.length : Int)) (vc := .int .i64 (ct : Int)) ((hA.eval_old hJ.dom 41 (by kernel_rfl)).trans (by rfl)) ((hA.eval_old hJ.dom 42 (by kernel_rfl)).trans (by rfl)) (m11 w3) ⟨_, rfl, hJ.make (i := 11) rfl (by decide) hσ⟩
      · have e := ho.symm.trans (rfl : _ = some _)
        injection e with e
        subst e
        refine wpOp_make ho rfl rfl (vl := .int .i64 8) (vc := .int .i64 8) ((hA.eval_old hJ.dom 48 (by kernel_rfl)).trans (by rfl)) ((hA.eval_old hJ.dom 48 (by kernel_rfl)).trans (by rfl)) (m17 w3) ⟨_, rfl, hJ.make (i := 17) rfl (by decide) hσ⟩
      · have e := ho.symm.trans (rfl : _ = some _)
        injection e with e
        subst e
        refine wpOp_make ho rfl rfl (vl := .int .i64 8) (vc := .int .i64 8) ((hA.eval_old hJ.dom 50 (by kernel_rfl)).trans (by rfl)) ((hA.eval_old hJ.dom 50 (by kernel_rfl)).trans (by rfl)) (m19 w3) ⟨_, rfl, hJ.make (i := 19) rfl (by decide) hσ⟩
      · have e := ho.symm.trans (rfl : _ = some _)
        injection e with e
        subst e
        refine wpOp_make ho rfl rfl (vl := .int .i64 8) (vc := .int .i64 8) ((hA.eval_old hJ.dom 52 (by kernel_rfl)).trans (by rfl)) ((hA.eval_old hJ.dom 52 (by kernel_rfl)).trans (by rfl)) (m19 w3) ⟨_, rfl, hJ.make (i := 21) rfl (by decide) hσ⟩
      · have e := ho.symm.trans (rfl : _ = some _)
        injection e with e
        subst e
        refine wpOp_make ho rfl rfl (vl := .int .i64 8) (vc := .int .i64 8) ((hA.eval_old hJ.dom 54 (by kernel_rfl)).trans (by rfl)) ((hA.eval_old hJ.dom 54 (by kernel_rfl)).trans (by rfl)) (m23 w3) ⟨_, rfl, hJ.make (i := 23) rfl (by decide) hσ⟩
      · have e := ho.symm.trans (rfl : _ = some _)
        injection e with e
        subst e
        have hJ' := Lib.hid (hJ.pure (i := 24) (u := .int .u64 1) rfl (by decide))
        clear hA hJ hdep m11 m17 m19 m23 m36
        refine wpOp_of ho fun K hK => ?_
        have HK := Lib.hid hK
        clear hK
        go_simp
        refine (luby_any _).mono ?_
        rintro e' w' ⟨rfl, rfl⟩
        exact HK.out _ _ ⟨_, rfl, hJ'.out⟩
      · have e := ho.symm.trans (rfl : _ = some _)
        injection e with e
        subst e
        obtain ⟨v24, h24⟩ := Option.isSome_iff_exists.1 ((hdep { on := 24, ground := .data } (by simp) rfl).resolve_left (by decide))
        have := hJ.pv 24 _ v24 rfl h24
        subst this
        have e24 := hA.get_new h24 (t := 56) (by kernel_rfl) (by simp)
        have hJ' := Lib.hid (hJ.pure (i := 25) (u := .int .u64 512) rfl (by decide))
        clear hA hJ hdep m11 m17 m19 m23 m36 h24
        refine wpOp_of ho fun K hK => ?_
        have HK := Lib.hid hK
        clear hK
        go_simp
        exact HK.out _ _ ⟨_, rfl, hJ'.out⟩
      · have e := ho.symm.trans (rfl : _ = some _)
        injection e with e
        subst e
        obtain ⟨v25, h25⟩ := Option.isSome_iff_exists.1 ((hdep { on := 25, ground := .data } (by simp) rfl).resolve_left (by decide))
        have := hJ.pv 25 _ v25 rfl h25
        subst this
        have e25 := hA.get_new h25 (t := 57) (by kernel_rfl) (by simp)
        have hJ' := Lib.hid (hJ.pure (i := 26) (u := .int .i64 512) rfl (by decide))
        clear hA hJ hdep m11 m17 m19 m23 m36 h25
        refine wpOp_of ho fun K hK => ?_
        have HK := Lib.hid hK
        clear hK
        go_simp
        exact HK.out _ _ ⟨_, rfl, hJ'.out⟩
      · have e := ho.symm.trans (rfl : _ = some _)
        injection e with e
        subst e
        refine wpOp_make ho rfl rfl (vl := .int .i64 8) (vc := .int .i64 8) ((hA.eval_old hJ.dom 67 (by kernel_rfl)).trans (by rfl)) ((hA.eval_old hJ.dom 67 (by kernel_rfl)).trans (by rfl)) (m36 w3) ⟨_, rfl, hJ.make (i := 36) rfl (by decide) hσ⟩
      · have e := ho.symm.trans (rfl : _ = some _)
        injection e with e
        subst e
        refine wpOp_make ho rfl rfl (vl := .int .i64 8) (vc := .int .i64 8) ((hA.eval_old hJ.dom 69 (by kernel_rfl)).trans (by rfl)) ((hA.eval_old hJ.dom 69 (by kernel_rfl)).trans (by rfl)) (m36 w3) ⟨_, rfl, hJ.make (i := 38) rfl (by decide) hσ⟩
      · have e := ho.symm.trans (rfl : _ = some _)
        injection e with e
        subst e
        refine wpOp_make ho rfl rfl (vl := .int .i64 8) (vc := .int .i64 8) ((hA.eval_old hJ.dom 71 (by kernel_rfl)).trans (by rfl)) ((hA.eval_old hJ.dom 71 (by kernel_rfl)).trans (by rfl)) (m36 w3) ⟨_, rfl, hJ.make (i := 40) rfl (by decide) hσ⟩
      · have e := ho.symm.trans (rfl : _ = some _)
        injection e with e
        subst e
        obtain ⟨v26, h26⟩ := Option.isSome_iff_exists.1 ((hdep { on := 26, ground := .data } (by simp) rfl).resolve_left (by decide))
        have := hJ.pv 26 _ v26 rfl h26
        subst this
        obtain ⟨v11, h11⟩ := Option.isSome_iff_exists.1 ((hdep { on := 11, ground := .data } (by simp) rfl).resolve_left (by decide))
        obtain ⟨b11, rfl, _, _⟩ := hJ.al 11 _ _ _ _ v11 rfl h11
        obtain ⟨v17, h17⟩ := Option.isSome_iff_exists.1 ((hdep { on := 17, ground := .data } (by simp) rfl).resolve_left (by decide))
        obtain ⟨b17, rfl, _, _⟩ := hJ.al 17 _ _ _ _ v17 rfl h17
        obtain ⟨v19, h19⟩ := Option.isSome_iff_exists.1 ((hdep { on := 19, ground := .data } (by simp) rfl).resolve_left (by decide))
        obtain ⟨b19, rfl, _, _⟩ := hJ.al 19 _ _ _ _ v19 rfl h19
        obtain ⟨v21, h21⟩ := Option.isSome_iff_exists.1 ((hdep { on := 21, ground := .data } (by simp) rfl).resolve_left (by decide))
        obtain ⟨b21, rfl, _, _⟩ := hJ.al 21 _ _ _ _ v21 rfl h21
        obtain ⟨v23, h23⟩ := Option.isSome_iff_exists.1 ((hdep { on := 23, ground := .data } (by simp) rfl).resolve_left (by decide))
        obtain ⟨b23, rfl, _, _⟩ := hJ.al 23 _ _ _ _ v23 rfl h23
        obtain ⟨v36, h36⟩ := Option.isSome_iff_exists.1 ((hdep { on := 36, ground := .data } (by simp) rfl).resolve_left (by decide))
        obtain ⟨b36, rfl, _, _⟩ := hJ.al 36 _ _ _ _ v36 rfl h36
        obtain ⟨v38, h38⟩ := Option.isSome_iff_exists.1 ((hdep { on := 38, ground := .data } (by simp) rfl).resolve_left (by decide))
        obtain ⟨b38, rfl, _, _⟩ := hJ.al 38 _ _ _ _ v38 rfl h38
        obtain ⟨v40, h40⟩ := Option.isSome_iff_exists.1 ((hdep { on := 40, ground := .data } (by simp) rfl).resolve_left (by decide))
        obtain ⟨b40, rfl, _, _⟩ := hJ.al 40 _ _ _ _ v40 rfl h40
        have e43 := hA.eval_new h11 (t := 43) (by kernel_rfl) (by simp)
        have e49 := hA.eval_new h17 (t := 49) (by kernel_rfl) (by simp)
        have e51 := hA.eval_new h19 (t := 51) (by kernel_rfl) (by simp)
        have e53 := hA.eval_new h21 (t := 53) (by kernel_rfl) (by simp)
        have e55 := hA.eval_new h23 (t := 55) (by kernel_rfl) (by simp)
        have e68 := hA.eval_new h36 (t := 68) (by kernel_rfl) (by simp)
        have e70 := hA.eval_new h38 (t := 70) (by kernel_rfl) (by simp)
        have e72 := hA.eval_new h40 (t := 72) (by kernel_rfl) (by simp)
        have e58 := hA.eval_new h26 (t := 58) (by kernel_rfl) (by simp)
        have e32 : a.eval (.tmp 32) = .int .i64 8 := (hA.eval_old hJ.dom 32 (by kernel_rfl)).trans (by rfl)
        have e36 : a.eval (.tmp 36) = .int .u8 st := (hA.eval_old hJ.dom 36 (by kernel_rfl)).trans (by rfl)
        have e47 : a.eval (.tmp 47) = .slice (some ⟨bm, 0, none⟩) 8 8 := (hA.eval_old hJ.dom 47 (by kernel_rfl)).trans (by rfl)
        have e62 : a.eval (.tmp 62) = .slice none 0 0 := (hA.eval_old hJ.dom 62 (by kernel_rfl)).trans (by rfl)
        have e66 : a.eval (.tmp 66) = .slice none 0 0 := (hA.eval_old hJ.dom 66 (by kernel_rfl)).trans (by rfl)
        have h42 : σ 42 = none := by
          cases hx : σ 42 with
          | none => rfl
          | some v => obtain ⟨_, _, _, _, k, _⟩ := hJ.bx v hx; rw [hσ] at k; cases k
        refine wpOp_build (vs := parts78 st b11 us.length ct bm b17 b19 b21 b23 b36 b38 b40) ho rfl rfl ?_ run78 ⟨_, rfl, hJ.build h42 h11 h17 h23⟩
        simp only [List.map_toArray, List.map_cons, List.map_nil, e32, e36, e43, e47, e49, e51, e53, e55, e58, e62, e66, e68, e70, e72]
        rfl
      · have e := ho.symm.trans (rfl : _ = some _)
        injection e with e
        subst e
        obtain ⟨v41, h41⟩ := Option.isSome_iff_exists.1 ((hdep { on := 41, ground := .data } (by simp) rfl).resolve_left (by decide))
        obtain ⟨wb, b11, b17, b19, b21, b23, b36, b38, b40, k1, k2, k3, rfl⟩ := hJ.bd v41 h41
        have e41 := hA.get_new h41 (t := 73) (by kernel_rfl) (by simp)
        have hJ' := hJ.box h41
        generalize cells78 (parts78 st b11 us.length ct bm b17 b19 b21 b23 b36 b38 b40) wb = CC at e41 hJ'
        have HJ' := Lib.hid hJ'
        clear hA hJ hdep m11 m17 m19 m23 m36 h41 hJ' k1 k2 k3
        refine wpOp_of ho fun K hK => ?_
        have HK := Lib.hid hK
        clear hK
        go_simp
        exact HK.out _ _ ⟨_, rfl, HJ'.out⟩
    · intro σ a' w3 hJ hA hall
      obtain ⟨x11, h11⟩ := Option.isSome_iff_exists.1 (hall 11 (by omega) (by decide))
      obtain ⟨x17, h17⟩ := Option.isSome_iff_exists.1 (hall 17 (by omega) (by decide))
      obtain ⟨x19, h19⟩ := Option.isSome_iff_exists.1 (hall 19 (by omega) (by decide))
      obtain ⟨x21, h21⟩ := Option.isSome_iff_exists.1 (hall 21 (by omega) (by decide))
      obtain ⟨x23, h23⟩ := Option.isSome_iff_exists.1 (hall 23 (by omega) (by decide))
      obtain ⟨x24, h24⟩ := Option.isSome_iff_exists.1 (hall 24 (by omega) (by decide))
      obtain ⟨x25, h25⟩ := Option.isSome_iff_exists.1 (hall 25 (by omega) (by decide))
      obtain ⟨x26, h26⟩ := Option.isSome_iff_exists.1 (hall 26 (by omega) (by decide))
      obtain ⟨x36, h36⟩ := Option.isSome_iff_exists.1 (hall 36 (by omega) (by decide))
      obtain ⟨x38, h38⟩ := Option.isSome_iff_exists.1 (hall 38 (by omega) (by decide))
      obtain ⟨x40, h40⟩ := Option.isSome_iff_exists.1 (hall 40 (by omega) (by decide))
      obtain ⟨x41, h41⟩ := Option.isSome_iff_exists.1 (hall 41 (by omega) (by decide))
      obtain ⟨x42, h42⟩ := Option.isSome_iff_exists.1 (hall 42 (by omega) (by decide))
      obtain ⟨b11, rfl, hb11, r11⟩ := hJ.al 11 _ _ _ _ x11 rfl h11
      obtain ⟨b17, rfl, hb17, r17⟩ := hJ.al 17 _ _ _ _ x17 rfl h17
      obtain ⟨b19, rfl, hb19, r19⟩ := hJ.al 19 _ _ _ _ x19 rfl h19
      obtain ⟨b21, rfl, hb21, r21⟩ := hJ.al 21 _ _ _ _ x21 rfl h21
      obtain ⟨b23, rfl, hb23, r23⟩ := hJ.al 23 _ _ _ _ x23 rfl h23
      obtain ⟨b36, rfl, hb36, r36⟩ := hJ.al 36 _ _ _ _ x36 rfl h36
      obtain ⟨b38, rfl, hb38, r38⟩ := hJ.al 38 _ _ _ _ x38 rfl h38
      obtain ⟨b40, rfl, hb40, r40⟩ := hJ.al 40 _ _ _ _ x40 rfl h40
      have := hJ.pv 24 _ x24 rfl h24
      subst this
      have := hJ.pv 25 _ x25 rfl h25
      subst this
      have := hJ.pv 26 _ x26 rfl h26
      subst this
      obtain ⟨s, C, rfl, hs, k41, rs⟩ := hJ.bx x42 h42
      rw [h41] at k41; injection k41 with k41; subst k41
      obtain ⟨wb, c11, c17, c19, c21, c23, c36, c38, c40, k11, k17, k23, hC⟩ := hJ.bd _ h41
      rw [h11] at k11; injection k11 with k11; injection k11 with k11; injection k11 with k11; injection k11 with k11
      rw [h17] at k17; injection k17 with k17; injection k17 with k17; injection k17 with k17; injection k17 with k17
      rw [h23] at k23; injection k23 with k23; injection k23 with k23; injection k23 with k23; injection k23 with k23
      injection hC with hC
      have hae := hA.eq hJ.dom (by
        intro j hj
        simp only [List.mem_cons, List.not_mem_nil, or_false] at hj
        rcases hj with rfl | rfl | rfl | rfl | rfl | rfl | rfl | rfl | rfl | rfl | rfl | rfl | rfl
        · rw [h11]; rfl
        · rw [h17]; rfl
        · rw [h19]; rfl
        · rw [h21]; rfl
        · rw [h23]; rfl
        · rw [h24]; rfl
        · rw [h25]; rfl
        · rw [h26]; rfl
        · rw [h36]; rfl
        · rw [h38]; rfl
        · rw [h40]; rfl
        · rw [h41]; rfl
        · rw [h42]; rfl)
      have hg3 := grownBy_trans (grownBy_drew wc none) hJ.hg
      have HG3 := Lib.hid hg3
      simp only [List.foldl, List.getElem?_toArray, List.getElem?_cons_succ, List.getElem?_cons_zero, Option.bind_some, h11, h17, h19, h21, h23, h24, h25, h26, h36, h38, h40, h41, h42, Option.getD_some, Act.put, List.setIfInBounds_toArray, List.set] at hae
      subst hae
      clear hA hall h11 h17 h19 h21 h23 h24 h25 h26 h36 h38 h40 h41 h42 hJ hg3
      simp only [List.drop_succ_cons, List.drop_zero]
      have q4 : C.toList[4]? = some (.int .i64 8) := by rw [hC, Array.getElem?_toList]; exact c78_4
      have q14 : C.toList[14]? = some (.slice (some ⟨b11, 0, none⟩) us.length ct) := by rw [hC, Array.getElem?_toList, k11]; exact c78_14
      have q15 : C.toList[15]? = some (.slice (some ⟨bm, 0, none⟩) 8 8) := by rw [hC, Array.getElem?_toList]; exact c78_15
      have q17 : C.toList[17]? = some (.slice (some ⟨b17, 0, none⟩) 8 8) := by rw [hC, Array.getElem?_toList, k17]; exact c78_17
      have q20 : C.toList[20]? = some (.slice (some ⟨b23, 0, none⟩) 8 8) := by rw [hC, Array.getElem?_toList, k23]; exact c78_20
      have qm : C.toList[5094]? = some (.slice none 0 0) := by rw [hC, Array.getElem?_toList]; exact c78_5094
      have ql : C.toList.length = 5102 := by rw [hC, Array.length_toList]; exact c78_size
      have Q4 := Lib.hid q4
      have Q14 := Lib.hid q14
      have Q15 := Lib.hid q15
      have Q17 := Lib.hid q17
      have Q20 := Lib.hid q20
      have Qm := Lib.hid qm
      have Ql := Lib.hid ql
      have RS := Lib.hid rs
      have R11 := Lib.hid r11
      have R17 := Lib.hid r17
      have R23 := Lib.hid r23
      clear q4 q14 q15 q17 q20 qm ql rs r11 r17 r19 r21 r23 r36 r38 r40 hC k11 k17 k23 m11 m17 m19 m23 m36
      generalize C.toList = C0 at Q4 Q14 Q15 Q17 Q20 Qm Ql RS
      generalize Value.agg C = vagg
      go_wp2_with fail
      refine (rop_any (RS.out.cell Qm.out)).mono ?_
      rintro e' w' ⟨rfl, rfl⟩
      go_wp2_with fail
      refine (ioa_any (RS.out.cell Qm.out)).mono ?_
      rintro e' w' ⟨rfl, rfl⟩
      have hp3 := H.out.grown HG3.out
      have q1 := hp3.pc (i := 1) rfl
      have hs' : wc.heap.size ≤ s := hs
      have hb11' : wc.heap.size ≤ b11 := hb11
      have hb23' : wc.heap.size ≤ b23 := hb23
      have okL := newLayOk H.out hCS hab.nod hlen hs' hb23'
      have hpre := newPre H.out hCS HG3.out RS.out Q4.out Q14.out Q15.out Q20.out R23.out R11.out hb11' hct1 (by omega)
      have hcvL : w3.ownsRow Φ.B0 50 1 cv (newLay Φ s bm b23 wc.heap.size CS cb lb).K (ptrs (newLay Φ s bm b23 wc.heap.size CS cb lb).cb (List.range (newLay Φ s bm b23 wc.heap.size CS cb lb).K)) := by
        show w3.ownsRow Φ.B0 50 1 cv CS.length (ptrs (rn cb CS) (List.range CS.length))
        rw [ptrs_rn]; exact hp3.cls
      have OkL := Lib.hid okL
      have HPre := Lib.hid hpre
      have HCVL := Lib.hid hcvL
      have HP3 := Lib.hid hp3
      clear okL hpre hcvL hp3
      go_wp2_with fail
      refine (ini_mem OkL.out HPre.out (fun k hk => ⟨(hab.cl _ (rn_mem hk)).1, (hab.cl _ (rn_mem hk)).2.1⟩) HCVL.out).mono ?_
      rintro e' w4 ⟨rfl, bb, bh, bp, ba, EV, C1, ok4, hm4, rs4, hC1, hk4⟩
      replace rs4 : Row w4 s 78 C1 := rs4
      have f17 := rs4.cell (i := 17) ((hC1 17 (by omega)).trans Q17.out)
      have cc : ∀ i, 14 ≤ i → i < 100 → ∃ x, C1[i]? = some x := fun i h1 h2 => ⟨_, (hC1 i (by omega)).trans (List.getElem?_eq_getElem (by have := Ql.out; omega))⟩
      have HM4 := Lib.hid hm4
      have RS4 := Lib.hid rs4
      have HK4 := Lib.hid hk4
      have CC := Lib.hid cc
      clear hm4 rs4 hC1 hk4 cc RS
      go_wp2_with fail
      refine (queue_any (HK4.out _ _ _ (by decide) (by decide) (by decide) R17.out)).mono ?_
      rintro e' w5 ⟨⟨qa1, qa2, qa3, qb1, qb2, qb3, rfl⟩, hg5⟩
      have rs5 := RS4.out.kept hg5 (by simp)
      obtain ⟨z21, y21⟩ := CC.out 21 (by omega) (by omega)
      obtain ⟨z22, y22⟩ := CC.out 22 (by omega) (by omega)
      obtain ⟨z23, y23⟩ := CC.out 23 (by omega) (by omega)
      have k21 := rs5.cell y21
      have k22 := rs5.cell y22
      have k23 := rs5.cell y23
      have j21 := rs5.frozen 21
      have j22 := rs5.frozen 22
      have j23 := rs5.frozen 23
      have s6 := ((rs5.set 21 (.slice (some ⟨b17, 0, none⟩) 8 8)).set 22 (.slice qa1 qa2 qa3))
      have hm6 : Mem ((newLay Φ s bm b23 wc.heap.size CS cb lb).wl bb bh bp ba) (((w5.setCell ⟨s, 21, none⟩ (.slice (some ⟨b17, 0, none⟩) 8 8)).setCell ⟨s, 22, none⟩ (.slice qa1 qa2 qa3)).setCell ⟨s, 23, none⟩ (.slice qb1 qb2 qb3)) m _ _ _ _ _ := (((HM4.out.grown ok4 hg5).sset ok4 21 (by omega) (.slice (some ⟨b17, 0, none⟩) 8 8)).sset ok4 22 (by omega) (.slice qa1 qa2 qa3)).sset ok4 23 (by omega) (.slice qb1 qb2 qb3)
      have hk6 : Keep3 w3 (((w5.setCell ⟨s, 21, none⟩ (.slice (some ⟨b17, 0, none⟩) 8 8)).setCell ⟨s, 22, none⟩ (.slice qa1 qa2 qa3)).setCell ⟨s, 23, none⟩ (.slice qb1 qb2 qb3)) := ((((HK4.out.trans (Keep3.grown hg5)).trans (Keep3.set rs5 21 (.slice (some ⟨b17, 0, none⟩) 8 8))).trans (Keep3.set (rs5.set 21 (.slice (some ⟨b17, 0, none⟩) 8 8)) 22 (.slice qa1 qa2 qa3))).trans (Keep3.set s6 23 (.slice qb1 qb2 qb3)))
      have rp5 : Row w5 Φ.p 88 (pRow cv st uv (.slice (some ⟨bm, 0, none⟩) 8 8)) := (HK4.out.trans (Keep3.grown hg5)) _ _ _ (by decide) (by decide) (by decide) HP3.out.row
      have u3 := rp5.cell (i := 3) rfl
      rw [HUV.out] at u3
      have dps : ¬ s = Φ.p := rs5.ne rp5 (by decide)
      have HM6 := Lib.hid hm6
      have HK6 := Lib.hid hk6
      clear hm6 hk6 s6 rs5 y21 y22 y23 f17
      go_wp2_with fail
      obtain ⟨w6, hw6⟩ : ∃ w6, w6 = ((w5.setCell ⟨s, 21, none⟩ (.slice (some ⟨b17, 0, none⟩) 8 8)).setCell ⟨s, 22, none⟩ (.slice qa1 qa2 qa3)).setCell ⟨s, 23, none⟩ (.slice qb1 qb2 qb3) := ⟨_, rfl⟩
      rw [← hw6] at HM6 HK6 ⊢
      have hu6 := HK6.out.own HP3.out.units (by decide) (by decide) (by decide)
      have HU6 := Lib.hid hu6
      have OK4 := Lib.hid ok4
      clear hw6 hu6 ok4 u3 k21 k22 k23 j21 j22 j23 p0 p2 p3 p4 p5 p6 q1
      go_loopg [98] us.length (fun gk jv wr => ∃ j : Nat, jv = .int .i64 (j : Int) ∧ j + gk = us.length ∧ Mem ((newLay Φ s bm b23 wc.heap.size CS cb lb).wl bb bh bp ba) wr m (us.take j ++ List.replicate (us.length - j) 0) (.slice (some ⟨b11, 0, none⟩) us.length ct) (rn L CS) EV (Ews (rn L CS) CS.length) ∧ wr.ownsRow Φ.B0 90 1 uv us.length (us.map litV))
      case atStart => exact ⟨0, rfl, by omega, (by simp only [List.take_zero, List.nil_append, Nat.sub_zero]; exact HM6.out), HU6.out⟩
      case round =>
        obtain ⟨j, rfl, hgk, hm, hu⟩ := hrel
        clear HM6 HU6
        by_cases hj : j < us.length
        · obtain ⟨gu, rfl⟩ := HUA.out (by omega)
          obtain ⟨u, hu0⟩ : ∃ u, us[j]? = some u := ⟨_, List.getElem?_eq_getElem hj⟩
          obtain ⟨hu16, hut⟩ := hab.utru u (List.mem_of_getElem? hu0)
          obtain ⟨_, _, e1, u1, _, _, _⟩ := own_cell hu (i := j) (u := litV u) (by simp [hu0])
          rw [HUV.out] at e1
          injection e1 with e1 e2 e3
          injection e1 with e1
          injection e1 with e1
          subst e1 e3
          clear e2
          have hlt2 : u / 2 < m.length := by rw [hab.mlen]; omega
          have hmu : m[u / 2] = sgn u 1 := by
            have h1 := hab.mval _ (List.getElem_mem hlt2)
            unfold tru lv at hut
            rw [List.getD_eq_getElem?_getD, List.getElem?_eq_getElem hlt2, Option.getD_some] at hut
            unfold sgn at hut ⊢
            split at hut
            · rename_i hp; rw [if_pos hp]; omega
            · rename_i hp; rw [if_neg hp]; omega
          have hset : ∀ x, x = sgn u 1 → m.set (u / 2) x = m := fun x hx => by rw [hx, ← hmu, List.set_getElem_self]
          have f15 : wr.cell? ⟨s, 15, none⟩ = some (.slice (some ⟨bm, 0, none⟩) 8 8) := hm.c15
          have f14 : wr.cell? ⟨s, 14, none⟩ = some (.slice (some ⟨b11, 0, none⟩) us.length ct) := hm.c14
          have fm : wr.cell? ⟨bm, u / 2, none⟩ = some (.int .i64 (m.getD (u / 2) 0)) := hm.mc (v := u / 2) (by omega)
          have fmf : wr.frozen? ⟨bm, u / 2, none⟩ = false := hm.mf (u / 2)
          have dsm : ¬ bm = s := Ne.symm hm.s_bm
          have v0 : (0 : Int) ≤ (u : Int) / 2 := by omega
          have v1 : (u : Int) / 2 < 8 := by omega
          have v2 : ((u : Int) / 2).toNat = u / 2 := by omega
          generalize m.getD (u / 2) 0 = y at fm
          have HM7 := Lib.hid hm
          have HU7 := Lib.hid hu
          have HG := Lib.hid hgk
          have HSet := Lib.hid hset
          have HU0 := Lib.hid hu0
          clear hm hu hgk hset hmu hu0
          unfold litV at u1
          go_wp2_with fail
          refine (pos_any _ _ hu16).mono ?_
          rintro e' w' ⟨rfl, rfl⟩
          by_cases hp : u % 2 = 0
          · have hpb : decide (u % 2 = 0) = true := by simpa using hp
            rw [hpb]
            have hsv : (1 : Int) = sgn u 1 := by unfold sgn; rw [if_pos hp]
            have hm8 := (HM7.out.setModel OK4.out (u / 2) 1).drew OK4.out
            rw [HSet.out _ hsv] at hm8
            clear hsv
            go_wp2_with fail
            go_region_held3 (fun w' => w'.cell? ⟨s, 15, none⟩ = some (.slice (some ⟨bm, 0, none⟩) 8 8)) (go_keep) (first | (go_at_call 44; refine (var_any _ _ hu16).mono ?_; rintro e' w' ⟨rfl, rfl⟩))
            rename_i hHeld
            clear hHeld
            have hu8 := (HU7.out.kept (grownBy_setCell wr ⟨bm, u / 2, none⟩ (.int .i64 1)) (.inr (own_ne HU7.out HM7.out.model (.inl (by decide)))))
            obtain ⟨w8, hw8⟩ : ∃ w8, w8 = (wr.setCell ⟨bm, u / 2, none⟩ (.int .i64 1)).drew := ⟨_, rfl⟩
            have hu8' : w8.ownsRow Φ.B0 90 1 (.slice (some ⟨gu, 0, none⟩) us.length ucap) us.length (us.map litV) := by rw [hw8, ← HUV.out]; exact hu8
            have hm8' : Mem ((newLay Φ s bm b23 wc.heap.size CS cb lb).wl bb bh bp ba) w8 m (us.take j ++ List.replicate (us.length - j) 0) (.slice (some ⟨b11, 0, none⟩) us.length ct) (rn L CS) EV (Ews (rn L CS) CS.length) := by rw [hw8]; exact hm8
            rw [← hw8]
            clear hw8 hu8 hm8 f14 f15 fm fmf u1
            have g14 : w8.cell? ⟨s, 14, none⟩ = some (.slice (some ⟨b11, 0, none⟩) us.length ct) := hm8'.c14
            have hmid : (us.take j ++ List.replicate (us.length - j) 0)[j]? = some 0 := by simpa using lits_mid (f := id) (z := 0) hj
            have hnx : (us.take j ++ List.replicate (us.length - j) 0).set j u = us.take (j + 1) ++ List.replicate (us.length - (j + 1)) 0 := by simpa using lits_set (f := id) (z := 0) HU0.out
            obtain ⟨_, _, e1, t1, t1f, hge, _⟩ := own_cell hm8'.trail (i := j) (u := litV 0) (by rw [List.getElem?_map, hmid]; rfl)
            injection e1 with e1 e2 e3
            injection e1 with e1
            injection e1 with e1
            subst e1
            clear e2 e3
            have j1 : (j : Int) < (us.length : Int) := by omega
            have j0 : (0 : Int) ≤ (j : Int) := by omega
            have hm9 := hm8'.tset OK4.out rfl j u
            rw [hnx] at hm9
            have hu9 := hu8'.kept (grownBy_setCell w8 ⟨b11, j, none⟩ (litV u)) (.inr fun hh => by
              have h1 := (H.out.units.lt gu (by rw [HUV.out]; rfl)).2
              have h2 : some gu = some b11 := hh
              injection h2 with h2
              omega)
            have HM9 := Lib.hid hm9
            have HU9 := Lib.hid hu9
            clear hm8' hu8' hm9 hu9 hmid hnx hge
            go_wp2_with fail
            go_roundg (gk - 1)
            case measure => have := HG.out; omega
            case rel => exact ⟨j + 1, by go_num, by have := HG.out; omega, HM9.out, by rw [HUV.out]; exact HU9.out⟩
          · have hpb : decide (u % 2 = 0) = false := by simpa using hp
            rw [hpb]
            have hsv : ((-1) : Int) = sgn u 1 := by unfold sgn; rw [if_neg hp]
            have hm8 := (HM7.out.setModel OK4.out (u / 2) (-1)).drew OK4.out
            rw [HSet.out _ hsv] at hm8
            clear hsv
            go_wp2_with fail
            go_region_held3 (fun w' => w'.cell? ⟨s, 15, none⟩ = some (.slice (some ⟨bm, 0, none⟩) 8 8)) (go_keep) (first | (go_at_call 44; refine (var_any _ _ hu16).mono ?_; rintro e' w' ⟨rfl, rfl⟩))
            rename_i hHeld
            clear hHeld
            have hu8 := (HU7.out.kept (grownBy_setCell wr ⟨bm, u / 2, none⟩ (.int .i64 (-1))) (.inr (own_ne HU7.out HM7.out.model (.inl (by decide)))))
            obtain ⟨w8, hw8⟩ : ∃ w8, w8 = (wr.setCell ⟨bm, u / 2, none⟩ (.int .i64 (-1))).drew := ⟨_, rfl⟩
            have hu8' : w8.ownsRow Φ.B0 90 1 (.slice (some ⟨gu, 0, none⟩) us.length ucap) us.length (us.map litV) := by rw [hw8, ← HUV.out]; exact hu8
            have hm8' : Mem ((newLay Φ s bm b23 wc.heap.size CS cb lb).wl bb bh bp ba) w8 m (us.take j ++ List.replicate (us.length - j) 0) (.slice (some ⟨b11, 0, none⟩) us.length ct) (rn L CS) EV (Ews (rn L CS) CS.length) := by rw [hw8]; exact hm8
            rw [← hw8]
            clear hw8 hu8 hm8 f14 f15 fm fmf u1
            have g14 : w8.cell? ⟨s, 14, none⟩ = some (.slice (some ⟨b11, 0, none⟩) us.length ct) := hm8'.c14
            have hmid : (us.take j ++ List.replicate (us.length - j) 0)[j]? = some 0 := by simpa using lits_mid (f := id) (z := 0) hj
            have hnx : (us.take j ++ List.replicate (us.length - j) 0).set j u = us.take (j + 1) ++ List.replicate (us.length - (j + 1)) 0 := by simpa using lits_set (f := id) (z := 0) HU0.out
            obtain ⟨_, _, e1, t1, t1f, hge, _⟩ := own_cell hm8'.trail (i := j) (u := litV 0) (by rw [List.getElem?_map, hmid]; rfl)
            injection e1 with e1 e2 e3
            injection e1 with e1
            injection e1 with e1
            subst e1
            clear e2 e3
            have j1 : (j : Int) < (us.length : Int) := by omega
            have j0 : (0 : Int) ≤ (j : Int) := by omega
            have hm9 := hm8'.tset OK4.out rfl j u
            rw [hnx] at hm9
            have hu9 := hu8'.kept (grownBy_setCell w8 ⟨b11, j, none⟩ (litV u)) (.inr fun hh => by
              have h1 := (H.out.units.lt gu (by rw [HUV.out]; rfl)).2
              have h2 : some gu = some b11 := hh
              injection h2 with h2
              omega)
            have HM9 := Lib.hid hm9
            have HU9 := Lib.hid hu9
            clear hm8' hu8' hm9 hu9 hmid hnx hge
            go_wp2_with fail
            go_roundg (gk - 1)
            case measure => have := HG.out; omega
            case rel => exact ⟨j + 1, by go_num, by have := HG.out; omega, HM9.out, by rw [HUV.out]; exact HU9.out⟩
        · go_wp2_with fail
          go_ret
          have hjn : j = us.length := by omega
          subst hjn
          rw [List.take_length, Nat.sub_self, List.replicate_zero, List.append_nil] at hm
          obtain ⟨n1, n2, n3⟩ := newAbs hab hO
          exact ⟨_, _, _, _, _, rfl, OK4.out, rfl, rfl, hm, n1, n2, n3⟩
end
end Go.Proofs.Ytiimddkopiknpaa
