/- watchClause: the contract watch_mem. -/
import Derived.Test.YtiimddkopiknpaaWatA
import Derived.Test.YtiimddkopiknpaaPlan
namespace Go.Proofs.Ytiimddkopiknpaa
open Go.RowKit
attribute [local go_sem ↓] Go.wp_at_zero Go.wp_at_succ
section
variable {Λ : Lay} {w w' : World} {m m' : List Int} {tr tr' : List Nat} {tv tv' : Value} {L L' : Nat → List Nat} {EV EV' : Nat → Value} {E E' : Nat → List (Nat × Nat)}

set_option maxRecDepth 100000 in
set_option maxHeartbeats 1000000 in
theorem watch_mem (ok : LayOk Λ) (hBB : ∀ k, some Λ.bb = some k → Λ.B0 ≤ k) {k f s : Nat} (hm : Mem Λ w m tr tv L EV E) (a0 : ClauseAt w (Λ.cb k) (Λ.lb k) (L k) 0) (hcl : ClOk (L k))
    (hf : (L k)[0]? = some f) (hs : (L k)[1]? = some s) (hE : ∀ z, z < 32 → (E z).length ≤ 100) :
    Calls Try.prog 49 #[.pointer (some ⟨Λ.s, 0, none⟩), .pointer (some ⟨Λ.cb k, 0, none⟩)] w fun e w' => e = .returned (.tuple #[]) ∧
      ∃ EV', Mem Λ w' m tr tv L EV' (addW (if (L k).length = 2 then 16 else 0) f s k E) ∧ KeepRows w w' := by
  have hf16 := hcl.rng _ (List.mem_of_getElem? hf)
  have hs16 := hcl.rng _ (List.mem_of_getElem? hs)
  have hnf := neg_lt hf16
  have hns := neg_lt hs16
  have hfs : f ≠ s := fun e => hcl.idx hf hs (by omega) (by rw [e])
  have hL1A := hE (neg f) (by omega)
  have hL1B := hE (neg f + 16) (by omega)
  have hne : neg s ≠ neg f := fun e => hfs (by rw [← neg_neg f, ← e, neg_neg])
  have hL2A : (upd E (neg f) (E (neg f) ++ [(s, k)]) (neg s)).length ≤ 100 := by rw [upd_other _ _ hne]; exact hE _ (by omega)
  have hL2B : (upd E (neg f + 16) (E (neg f + 16) ++ [(s, k)]) (neg s + 16)).length ≤ 100 := by rw [upd_other _ _ (by omega)]; exact hE _ (by omega)
  have y0 : (0 : Int) ≤ ((neg f : Nat) : Int) := by omega
  have y1 : ((neg f : Nat) : Int) < 16 := by omega
  have y2 : ((neg f : Nat) : Int).toNat = neg f := by omega
  have z0 : (0 : Int) ≤ ((neg s : Nat) : Int) := by omega
  have z1 : ((neg s : Nat) : Int) < 16 := by omega
  have z2 : ((neg s : Nat) : Int).toNat = neg s := by omega
  obtain ⟨i0, hi0, hz0, hz1, hz2⟩ := info_parts Try.info110
  have A0 := Lib.hid a0
  have HM := Lib.hid hm
  clear a0 hm hE
  by_cases h2 : (L k).length = 2
  · have hb : (((L k).length : Int) == 2) = true := by rw [h2]; rfl
    rw [if_pos h2]
    clear h2 hL1A hL2A
    go_enter Try.func49, Try.ntmps49
    go_wp2_with fail
    refine (pseudo_any _ _ _ _ _ A0.out).mono ?_
    rintro e' w' ⟨rfl, rfl⟩
    go_wp2_with fail
    refine (card_any _ _ _ _ A0.out).mono ?_
    rintro e' w' ⟨rfl, rfl⟩
    go_wp2_with fail
    refine (len_any _ _ _ _ _ A0.out).mono ?_
    rintro e' w' ⟨rfl, rfl⟩
    go_wp2_with fail
    refine (first_any _ _ _ _ _ A0.out f hf).mono ?_
    rintro e' w' ⟨rfl, rfl⟩
    unfold litV
    go_wp2_with fail
    refine (second_any _ _ _ _ _ A0.out s hs).mono ?_
    rintro e' w' ⟨rfl, rfl⟩
    unfold litV
    go_wp2_with fail
    refine (neg_any _ _ hf16).mono ?_
    rintro e' w' ⟨rfl, rfl⟩
    unfold litV
    go_wp2_with fail
    refine (neg_any _ _ hs16).mono ?_
    rintro e' w' ⟨rfl, rfl⟩
    unfold litV
    go_wp2_with fail
    have q1 := HM.out.c8
    have q2 := HM.out.hBc hnf
    have hEl := hL1B
    refine wp_region_lex (fun w' => w'.cell? ⟨Λ.s, 8, none⟩ = some (.slice (some ⟨Λ.bb, 0, none⟩) 16 16) ∧ w'.cell? ⟨Λ.bb, (neg f), none⟩ = some (EV (neg f + 16)))
      [false, false, false, false, false, false, false, false, false, false, false, false, false, false, false, false, false, true, true] (by kernel_rfl) (by kernel_rfl) ⟨q1, q2⟩ ?_
    iterate 17
      refine lex_take (v := ?_) (.inl ⟨by rfl, ?_⟩) (fun _ _ _ h => h) ?_
      rotate_left
      · (intro w hSw; (try dsimp only at hSw); go_simp; try with_reducible rfl)
      simp only [Act.put, List.setIfInBounds_toArray, List.set]
    refine lex_act (fun K hK => ?_)
    go_simp
    have hm8 := (HM.out.alloc ok (.cells #[.int .i32 (s : Int), .pointer (some ⟨Λ.cb k, 0, none⟩)] 110)).drew ok
    refine hK _ _ ⟨hm8.c8, hm8.hBc hnf⟩ ?_
    clear hK K
    refine lex_act (fun K hK => ?_)
    refine step_append_lies _ rfl _ _ 108 (by rfl) Λ.Bt 110 i0 (.agg #[.int .i32 0, .pointer none]) 2 16 Try.underlying108 hi0 hz0 hz1 hz2 rfl (by decide) _ _ _ (by rfl) (hm8.own ((neg f) + 16) (by omega)) ⟨w.heap.size, 0, none⟩ 1 1 [.int .i32 (s : Int), .pointer (some ⟨Λ.cb k, 0, none⟩)] (by rfl) rfl ?c1 ?c2 (by decide) ?c3 ?c4 ?c5 _ rfl ?_
    case c1 =>
      intro j u hj
      match j, hj with
      | 0, hj => simp at hj; subst hj; simp [go_sem, Addr.add]
      | 1, hj => simp at hj; subst hj; simp [go_sem, Addr.add]
    case c2 => intro u hu; simp at hu; rcases hu with rfl | rfl <;> rfl
    case c3 => unfold maxLen; omega
    case c4 => omega
    case c5 => exact hm8.bt
    intro g8 cap8 w8 hown8 hgrow8 hat8 _
    have hc8 := Chg.ofOwn (hm8.own ((neg f) + 16) (by omega)) hgrow8
    obtain ⟨C8, rC, hC⟩ := hm8.solver
    have t1 := (hc8.row rC (by decide)).cell hC.c8
    have t2 := (hc8.row hm8.hdrB (by decide)).cell (i := (neg f)) (v := EV (neg f + 16)) (by simp [hnf])
    have t2f := (hc8.row hm8.hdrB (by decide)).frozen (neg f)
    refine hK _ _ ⟨t1, t2⟩ ?_
    clear hK K
    refine lex_tail ?_
    have hm9 := watch_stepB ok hm8 hBB (y := (neg f)) (f := s) (k := k) hnf hgrow8 hown8 hat8
    have hk9 : KeepRows w (w8.setCell ⟨Λ.bb, (neg f), none⟩ (.slice (some ⟨g8, 0, none⟩) ((E ((neg f) + 16)).length + 1) cap8)) :=
      KeepRows.trans (fun p e r _ _ hr => (hr.alloc _).drew) (watch_keeps hm8 (z := ((neg f) + 16)) (by omega) hgrow8 hm8.hdrB)
    have HM2 := Lib.hid hm9
    have HM2k := Lib.hid hk9
    clear hm8 hm9 hk9 hown8 hgrow8 hat8 hc8 rC hC q1 q2 hEl
    go_wp2_with fail

    obtain ⟨w2, hw2⟩ : ∃ w2, w2 = w8.setCell ⟨Λ.bb, (neg f), none⟩ (.slice (some ⟨g8, 0, none⟩) ((E (neg f + 16)).length + 1) cap8) := ⟨_, rfl⟩
    obtain ⟨EVb, hEVb⟩ : ∃ EVb, EVb = upd EV (neg f + 16) (.slice (some ⟨g8, 0, none⟩) ((E (neg f + 16)).length + 1) cap8) := ⟨_, rfl⟩
    rw [← hw2] at HM2 HM2k ⊢
    rw [← hEVb] at HM2
    clear hw2 hEVb t1 t2 t2f

    have q1 := HM2.out.c8
    have q2 := HM2.out.hBc hns
    have hEl := hL2B
    refine wp_region_lex (fun w' => w'.cell? ⟨Λ.s, 8, none⟩ = some (.slice (some ⟨Λ.bb, 0, none⟩) 16 16) ∧ w'.cell? ⟨Λ.bb, (neg s), none⟩ = some (EVb (neg s + 16)))
      [false, false, false, false, false, false, false, false, false, false, false, false, false, false, false, false, false, true, true] (by kernel_rfl) (by kernel_rfl) ⟨q1, q2⟩ ?_
    iterate 17
      refine lex_take (v := ?_) (.inl ⟨by rfl, ?_⟩) (fun _ _ _ h => h) ?_
      rotate_left
      · (intro w hSw; (try dsimp only at hSw); go_simp; try with_reducible rfl)
      simp only [Act.put, List.setIfInBounds_toArray, List.set]
    refine lex_act (fun K hK => ?_)
    go_simp
    have hm8 := (HM2.out.alloc ok (.cells #[.int .i32 (f : Int), .pointer (some ⟨Λ.cb k, 0, none⟩)] 110)).drew ok
    refine hK _ _ ⟨hm8.c8, hm8.hBc hns⟩ ?_
    clear hK K
    refine lex_act (fun K hK => ?_)
    refine step_append_lies _ rfl _ _ 108 (by rfl) Λ.Bt 110 i0 (.agg #[.int .i32 0, .pointer none]) 2 16 Try.underlying108 hi0 hz0 hz1 hz2 rfl (by decide) _ _ _ (by rfl) (hm8.own ((neg s) + 16) (by omega)) ⟨w2.heap.size, 0, none⟩ 1 1 [.int .i32 (f : Int), .pointer (some ⟨Λ.cb k, 0, none⟩)] (by rfl) rfl ?c1 ?c2 (by decide) ?c3 ?c4 ?c5 _ rfl ?_
    case c1 =>
      intro j u hj
      match j, hj with
      | 0, hj => simp at hj; subst hj; simp [go_sem, Addr.add]
      | 1, hj => simp at hj; subst hj; simp [go_sem, Addr.add]
    case c2 => intro u hu; simp at hu; rcases hu with rfl | rfl <;> rfl
    case c3 => unfold maxLen; omega
    case c4 => omega
    case c5 => exact hm8.bt
    intro g8 cap8 w8 hown8 hgrow8 hat8 _
    have hc8 := Chg.ofOwn (hm8.own ((neg s) + 16) (by omega)) hgrow8
    obtain ⟨C8, rC, hC⟩ := hm8.solver
    have t1 := (hc8.row rC (by decide)).cell hC.c8
    have t2 := (hc8.row hm8.hdrB (by decide)).cell (i := (neg s)) (v := EVb (neg s + 16)) (by simp [hns])
    have t2f := (hc8.row hm8.hdrB (by decide)).frozen (neg s)
    refine hK _ _ ⟨t1, t2⟩ ?_
    clear hK K
    refine lex_tail ?_
    have hm9 := watch_stepB ok hm8 hBB (y := (neg s)) (f := f) (k := k) hns hgrow8 hown8 hat8
    have hk9 : KeepRows w2 (w8.setCell ⟨Λ.bb, (neg s), none⟩ (.slice (some ⟨g8, 0, none⟩) (((upd E (neg f + 16) (E (neg f + 16) ++ [(s, k)])) ((neg s) + 16)).length + 1) cap8)) :=
      KeepRows.trans (fun p e r _ _ hr => (hr.alloc _).drew) (watch_keeps hm8 (z := ((neg s) + 16)) (by omega) hgrow8 hm8.hdrB)
    have HM3 := Lib.hid hm9
    have HM3k := Lib.hid hk9
    clear hm8 hm9 hk9 hown8 hgrow8 hat8 hc8 rC hC q1 q2 hEl
    go_wp2_with fail

    go_end0
    exact ⟨rfl, _, HM3.out, HM2k.out.trans HM3k.out⟩
  · have hb : (((L k).length : Int) == 2) = false := by simp; omega
    rw [if_neg h2]
    clear h2 hL1B hL2B
    go_enter Try.func49, Try.ntmps49
    go_wp2_with fail
    refine (pseudo_any _ _ _ _ _ A0.out).mono ?_
    rintro e' w' ⟨rfl, rfl⟩
    go_wp2_with fail
    refine (card_any _ _ _ _ A0.out).mono ?_
    rintro e' w' ⟨rfl, rfl⟩
    go_wp2_with fail
    refine (len_any _ _ _ _ _ A0.out).mono ?_
    rintro e' w' ⟨rfl, rfl⟩
    go_wp2_with fail
    refine (first_any _ _ _ _ _ A0.out f hf).mono ?_
    rintro e' w' ⟨rfl, rfl⟩
    unfold litV
    go_wp2_with fail
    refine (second_any _ _ _ _ _ A0.out s hs).mono ?_
    rintro e' w' ⟨rfl, rfl⟩
    unfold litV
    go_wp2_with fail
    refine (neg_any _ _ hf16).mono ?_
    rintro e' w' ⟨rfl, rfl⟩
    unfold litV
    go_wp2_with fail
    refine (neg_any _ _ hs16).mono ?_
    rintro e' w' ⟨rfl, rfl⟩
    unfold litV
    go_wp2_with fail
    have q1 := HM.out.c9
    have q2 := HM.out.hc hnf
    have hEl := hL1A
    refine wp_region_lex (fun w' => w'.cell? ⟨Λ.s, 9, none⟩ = some (.slice (some ⟨Λ.bh, 0, none⟩) 16 16) ∧ w'.cell? ⟨Λ.bh, (neg f), none⟩ = some (EV (neg f)))
      [false, false, false, false, false, false, false, false, false, false, false, false, false, false, false, false, false, true, true] (by kernel_rfl) (by kernel_rfl) ⟨q1, q2⟩ ?_
    iterate 17
      refine lex_take (v := ?_) (.inl ⟨by rfl, ?_⟩) (fun _ _ _ h => h) ?_
      rotate_left
      · (intro w hSw; (try dsimp only at hSw); go_simp; try with_reducible rfl)
      simp only [Act.put, List.setIfInBounds_toArray, List.set]
    refine lex_act (fun K hK => ?_)
    go_simp
    have hm8 := (HM.out.alloc ok (.cells #[.int .i32 (s : Int), .pointer (some ⟨Λ.cb k, 0, none⟩)] 110)).drew ok
    refine hK _ _ ⟨hm8.c9, hm8.hc hnf⟩ ?_
    clear hK K
    refine lex_act (fun K hK => ?_)
    refine step_append_lies _ rfl _ _ 108 (by rfl) Λ.Bt 110 i0 (.agg #[.int .i32 0, .pointer none]) 2 16 Try.underlying108 hi0 hz0 hz1 hz2 rfl (by decide) _ _ _ (by rfl) (hm8.own (neg f) (by omega)) ⟨w.heap.size, 0, none⟩ 1 1 [.int .i32 (s : Int), .pointer (some ⟨Λ.cb k, 0, none⟩)] (by rfl) rfl ?c1 ?c2 (by decide) ?c3 ?c4 ?c5 _ rfl ?_
    case c1 =>
      intro j u hj
      match j, hj with
      | 0, hj => simp at hj; subst hj; simp [go_sem, Addr.add]
      | 1, hj => simp at hj; subst hj; simp [go_sem, Addr.add]
    case c2 => intro u hu; simp at hu; rcases hu with rfl | rfl <;> rfl
    case c3 => unfold maxLen; omega
    case c4 => omega
    case c5 => exact hm8.bt
    intro g8 cap8 w8 hown8 hgrow8 hat8 _
    have hc8 := Chg.ofOwn (hm8.own (neg f) (by omega)) hgrow8
    obtain ⟨C8, rC, hC⟩ := hm8.solver
    have t1 := (hc8.row rC (by decide)).cell hC.c9
    have t2 := (hc8.row hm8.hdr (by decide)).cell (i := (neg f)) (v := EV (neg f)) (by simp [hnf])
    have t2f := (hc8.row hm8.hdr (by decide)).frozen (neg f)
    refine hK _ _ ⟨t1, t2⟩ ?_
    clear hK K
    refine lex_tail ?_
    have hm9 := watch_step ok hm8 (y := (neg f)) (f := s) (k := k) hnf hgrow8 hown8 hat8
    have hk9 : KeepRows w (w8.setCell ⟨Λ.bh, (neg f), none⟩ (.slice (some ⟨g8, 0, none⟩) ((E (neg f)).length + 1) cap8)) :=
      KeepRows.trans (fun p e r _ _ hr => (hr.alloc _).drew) (watch_keeps hm8 (z := (neg f)) (by omega) hgrow8 hm8.hdr)
    have HM2 := Lib.hid hm9
    have HM2k := Lib.hid hk9
    clear hm8 hm9 hk9 hown8 hgrow8 hat8 hc8 rC hC q1 q2 hEl
    go_wp2_with fail

    obtain ⟨w2, hw2⟩ : ∃ w2, w2 = w8.setCell ⟨Λ.bh, (neg f), none⟩ (.slice (some ⟨g8, 0, none⟩) ((E (neg f)).length + 1) cap8) := ⟨_, rfl⟩
    obtain ⟨EVb, hEVb⟩ : ∃ EVb, EVb = upd EV (neg f) (.slice (some ⟨g8, 0, none⟩) ((E (neg f)).length + 1) cap8) := ⟨_, rfl⟩
    rw [← hw2] at HM2 HM2k ⊢
    rw [← hEVb] at HM2
    clear hw2 hEVb t1 t2 t2f

    have q1 := HM2.out.c9
    have q2 := HM2.out.hc hns
    have hEl := hL2A
    refine wp_region_lex (fun w' => w'.cell? ⟨Λ.s, 9, none⟩ = some (.slice (some ⟨Λ.bh, 0, none⟩) 16 16) ∧ w'.cell? ⟨Λ.bh, (neg s), none⟩ = some (EVb (neg s)))
      [false, false, false, false, false, false, false, false, false, false, false, false, false, false, false, false, false, true, true] (by kernel_rfl) (by kernel_rfl) ⟨q1, q2⟩ ?_
    iterate 17
      refine lex_take (v := ?_) (.inl ⟨by rfl, ?_⟩) (fun _ _ _ h => h) ?_
      rotate_left
      · (intro w hSw; (try dsimp only at hSw); go_simp; try with_reducible rfl)
      simp only [Act.put, List.setIfInBounds_toArray, List.set]
    refine lex_act (fun K hK => ?_)
    go_simp
    have hm8 := (HM2.out.alloc ok (.cells #[.int .i32 (f : Int), .pointer (some ⟨Λ.cb k, 0, none⟩)] 110)).drew ok
    refine hK _ _ ⟨hm8.c9, hm8.hc hns⟩ ?_
    clear hK K
    refine lex_act (fun K hK => ?_)
    refine step_append_lies _ rfl _ _ 108 (by rfl) Λ.Bt 110 i0 (.agg #[.int .i32 0, .pointer none]) 2 16 Try.underlying108 hi0 hz0 hz1 hz2 rfl (by decide) _ _ _ (by rfl) (hm8.own (neg s) (by omega)) ⟨w2.heap.size, 0, none⟩ 1 1 [.int .i32 (f : Int), .pointer (some ⟨Λ.cb k, 0, none⟩)] (by rfl) rfl ?c1 ?c2 (by decide) ?c3 ?c4 ?c5 _ rfl ?_
    case c1 =>
      intro j u hj
      match j, hj with
      | 0, hj => simp at hj; subst hj; simp [go_sem, Addr.add]
      | 1, hj => simp at hj; subst hj; simp [go_sem, Addr.add]
    case c2 => intro u hu; simp at hu; rcases hu with rfl | rfl <;> rfl
    case c3 => unfold maxLen; omega
    case c4 => omega
    case c5 => exact hm8.bt
    intro g8 cap8 w8 hown8 hgrow8 hat8 _
    have hc8 := Chg.ofOwn (hm8.own (neg s) (by omega)) hgrow8
    obtain ⟨C8, rC, hC⟩ := hm8.solver
    have t1 := (hc8.row rC (by decide)).cell hC.c9
    have t2 := (hc8.row hm8.hdr (by decide)).cell (i := (neg s)) (v := EVb (neg s)) (by simp [hns])
    have t2f := (hc8.row hm8.hdr (by decide)).frozen (neg s)
    refine hK _ _ ⟨t1, t2⟩ ?_
    clear hK K
    refine lex_tail ?_
    have hm9 := watch_step ok hm8 (y := (neg s)) (f := f) (k := k) hns hgrow8 hown8 hat8
    have hk9 : KeepRows w2 (w8.setCell ⟨Λ.bh, (neg s), none⟩ (.slice (some ⟨g8, 0, none⟩) (((upd E (neg f) (E (neg f) ++ [(s, k)])) (neg s)).length + 1) cap8)) :=
      KeepRows.trans (fun p e r _ _ hr => (hr.alloc _).drew) (watch_keeps hm8 (z := (neg s)) (by omega) hgrow8 hm8.hdr)
    have HM3 := Lib.hid hm9
    have HM3k := Lib.hid hk9
    clear hm8 hm9 hk9 hown8 hgrow8 hat8 hc8 rC hC q1 q2 hEl
    go_wp2_with fail

    go_end0
    exact ⟨rfl, _, HM3.out, HM2k.out.trans HM3k.out⟩
end
end Go.Proofs.Ytiimddkopiknpaa
