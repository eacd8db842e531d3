/- laws.FnPropagated: it returns true at every input. -/
import Derived.Test.YtiimddkopiknpaaCop
import Derived.Test.YtiimddkopiknpaaPla
namespace Go.Proofs.Ytiimddkopiknpaa
open Go.RowKit
attribute [local go_sem ↓] Go.wp_at_zero Go.wp_at_succ

/-- What a law answers: true; memory is taken alone. -/
def TPost (w : World) (e : Ending) (w' : World) : Prop := e = .returned (.bool true) ∧ Below w.heap.size w w'

set_option maxRecDepth 100000 in
set_option maxHeartbeats 1000000 in
theorem fnp_any {w : World} {v dv : Value} {cs : List (List Int)} {ds : List Int} (hin : MatIn w v cs) (hds : RowIn w dv ds) :
    Calls Try.prog 3 #[v, dv] w (TPost w) := by
  have HI := Lib.hid hin
  have HD := Lib.hid hds
  obtain ⟨A, C, hdv, hC1, hC2, _⟩ := hds
  have hdl : ds.length ≤ 9223372036854775807 := by unfold maxLen at hC2; omega
  subst hdv
  clear hin hC1 hC2
  by_cases hbig : (2147483647 : Int) < (ds.length : Int)
  · go_enter Try.func3, Try.ntmps3
    go_wp2_with fail
    refine (fits_any HI.out).mono ?_
    rintro e w' ⟨b, rfl, rfl⟩
    cases b
    all_goals
      go_wp2_with fail
      go_ret
      exact ⟨rfl, .refl _ _⟩
  go_enter Try.func3, Try.ntmps3
  go_wp2_with fail
  refine (fits_any HI.out).mono ?_
  rintro e w' ⟨b, rfl, rfl⟩
  cases b
  · go_wp2_with fail
    go_ret
    exact ⟨rfl, .refl _ _⟩
  go_wp2_with fail
  refine (sumInts_any HI.out).mono ?_
  rintro e w' ⟨n, rfl, rfl⟩
  have hb1 : Below w.heap.size w (w.alloc (.cells #[.int .i64 n] 3)) := (Below.refl _ _).alloc (Nat.le_refl _) _
  have hc1 : (w.alloc (.cells #[.int .i64 n] 3)).cell? ⟨w.heap.size, 0, none⟩ = some (.int .i64 n) := (Row.new w 3 [.int .i64 n]).cell rfl
  go_wp2_with fail
  refine (beyond_any hc1).mono ?_
  rintro e w' ⟨b, rfl, rfl⟩
  obtain ⟨w1, hw1⟩ : ∃ w1, w1 = w.alloc (.cells #[.int .i64 n] 3) := ⟨_, rfl⟩
  rw [← hw1] at hb1 ⊢
  clear hw1 hc1
  have HB1 := Lib.hid hb1
  clear hb1
  cases b
  rotate_left
  · go_wp2_with fail
    go_ret
    exact ⟨rfl, HB1.out⟩
  go_wp2_with fail
  refine (cnf_any (HI.out.below HB1.out)).mono ?_
  rintro e w2 ⟨b, rfl, hb2, hiff⟩
  have HB2 := Lib.hid (HB1.out.trans (hb2.mono HB1.out.size))
  have HF := Lib.hid hiff
  clear hb2 hiff HB1
  cases b
  · go_wp2_with fail
    go_ret
    exact ⟨rfl, HB2.out⟩
  have hok := HF.out.1 rfl
  have HOK := Lib.hid hok
  clear hok HF
  have hgo : ∀ w3 : World, Below w.heap.size w w3 → (∀ d ∈ ds, LitOk d) → ds.length ≤ 8 →
      Calls Try.prog 10 #[v, .int .i64 8, .slice A ds.length C] w3 (ZPost w3.heap.size w3 (cs.map (·.map enc)) (Der cs ds) (DerBot cs ds) ds) := fun w3 hb hl h8 =>
    imp_mem der_bot HOK.out.ok HOK.out.len (List.length_pos_iff.1 HOK.out.pos) (fun c hc => cls_len (HOK.out.ok c hc).dv (HOK.out.ok c hc).rng) der_rules (HI.out.below hb) (HD.out.below hb) h8 (fun d hd => ⟨hl d hd, .dec hd⟩)
  have hsp : ∀ w3 : World, Below w.heap.size w w3 → (∀ d ∈ ds, LitOk d) → ds.length ≤ 8 →
      Calls Try.prog 11 #[v, .slice A ds.length C] w3 (SPost (Der cs ds) (DerBot cs ds) cs ds w3) := fun w3 hb hl h8 =>
    spe_any der_bot HOK.out.ok HOK.out.len (List.length_pos_iff.1 HOK.out.pos) der_rules (HI.out.below hb) (HD.out.below hb) h8 (fun d hd => ⟨hl d hd, .dec hd⟩)
  have HGo := Lib.hid hgo
  have HSp := Lib.hid hsp
  clear hgo hsp
  by_cases h0 : 0 < (ds.length : Int)
  · go_wp2_with fail
    refine (lits_any (HD.out.below HB2.out)).mono ?_
    rintro e w3 ⟨b, rfl, hb3, hiff⟩
    have HB3 := Lib.hid (HB2.out.trans (hb3.mono HB2.out.size))
    have HF := Lib.hid hiff
    clear hb3 hiff HB2
    cases b
    · go_wp2_with fail
      go_ret
      exact ⟨rfl, HB3.out⟩
    have hc := HF.out.1 rfl
    have hl := hc.rng
    have h8 := cls_len hc.dv hc.rng
    have HL := Lib.hid hl
    clear hl hc HF
    go_wp2_with fail
    refine (HGo.out _ HB3.out HL.out h8).mono ?_
    rintro e w4 ⟨hb4, hz⟩
    have HB4 := Lib.hid (HB3.out.trans (hb4.mono HB3.out.size))
    clear hb4
    rcases hz with ⟨hbo, v1, rfl⟩ | ⟨v1, m, rfl, hown, hml, hs, hdd, hcl⟩
    · go_wp2_with fail
      refine (HSp.out _ HB4.out HL.out h8).mono ?_
      rintro e w5 ⟨hb5, ⟨_, v2, rfl⟩ | ⟨v2, N, s, rfl, _, hN, ha, hx, hd2, hcl2⟩⟩
      · have HB5 := Lib.hid (HB4.out.trans (hb5.mono HB4.out.size))
        clear hb5
        go_wp2_with fail
        go_ret
        exact ⟨rfl, HB5.out⟩
      · exact absurd hbo (cls_stand HOK.out.ok HL.out (fun d hd => (hd2 d hd).2) hcl2).noBot
    · have HOwn := Lib.hid hown
      have hcm := cls_model hdd hcl
      have HCM := Lib.hid hcm
      have HS := Lib.hid hs
      clear hown hcm hs hdd hcl
      go_wp2_with fail
      refine (HSp.out _ HB4.out HL.out h8).mono ?_
      rintro e w5 ⟨hb5, ⟨hbo, v2, rfl⟩ | ⟨v2, N, s, rfl, hown2, hN, ha, hx, hd2, hcl2⟩⟩
      · exact absurd hbo HCM.out.noBot
      · have heq := out_eq hN ha (cls_stand HOK.out.ok HL.out (fun d hd => (hd2 d hd).2) hcl2) HS.out HCM.out
        rw [← heq] at hown2
        have hr1 := (own_rd HOwn.out).below hb5
        have hr2 := own_rd hown2
        have HB5 := Lib.hid (HB4.out.trans (hb5.mono HB4.out.size))
        have HR1 := Lib.hid hr1
        have HR2 := Lib.hid hr2
        clear hb5 hown2 heq hr1 hr2 ha hx hd2 hcl2 HOwn HCM HS
        have hol := outTo_len m 8
        go_wp2_with fail
        refine (eq_any HR1.out HR2.out (by omega)).mono ?_
        rintro e w6 ⟨rfl, hb6⟩
        have HB6 := Lib.hid (HB5.out.trans (hb6.mono HB5.out.size))
        clear hb6
        go_wp2_with fail
        go_ret
        exact ⟨rfl, HB6.out⟩
  · have hl : ∀ d ∈ ds, LitOk d := fun d hd => by
      have := List.length_pos_iff.2 (List.ne_nil_of_mem hd)
      omega
    have h8 : ds.length ≤ 8 := by omega
    have HL := Lib.hid hl
    clear hl
    go_wp2_with fail
    refine (HGo.out _ HB2.out HL.out h8).mono ?_
    rintro e w4 ⟨hb4, hz⟩
    have HB4 := Lib.hid (HB2.out.trans (hb4.mono HB2.out.size))
    clear hb4
    rcases hz with ⟨hbo, v1, rfl⟩ | ⟨v1, m, rfl, hown, hml, hs, hdd, hcl⟩
    · go_wp2_with fail
      refine (HSp.out _ HB4.out HL.out h8).mono ?_
      rintro e w5 ⟨hb5, ⟨_, v2, rfl⟩ | ⟨v2, N, s, rfl, _, hN, ha, hx, hd2, hcl2⟩⟩
      · have HB5 := Lib.hid (HB4.out.trans (hb5.mono HB4.out.size))
        clear hb5
        go_wp2_with fail
        go_ret
        exact ⟨rfl, HB5.out⟩
      · exact absurd hbo (cls_stand HOK.out.ok HL.out (fun d hd => (hd2 d hd).2) hcl2).noBot
    · have HOwn := Lib.hid hown
      have hcm := cls_model hdd hcl
      have HCM := Lib.hid hcm
      have HS := Lib.hid hs
      clear hown hcm hs hdd hcl
      go_wp2_with fail
      refine (HSp.out _ HB4.out HL.out h8).mono ?_
      rintro e w5 ⟨hb5, ⟨hbo, v2, rfl⟩ | ⟨v2, N, s, rfl, hown2, hN, ha, hx, hd2, hcl2⟩⟩
      · exact absurd hbo HCM.out.noBot
      · have heq := out_eq hN ha (cls_stand HOK.out.ok HL.out (fun d hd => (hd2 d hd).2) hcl2) HS.out HCM.out
        rw [← heq] at hown2
        have hr1 := (own_rd HOwn.out).below hb5
        have hr2 := own_rd hown2
        have HB5 := Lib.hid (HB4.out.trans (hb5.mono HB4.out.size))
        have HR1 := Lib.hid hr1
        have HR2 := Lib.hid hr2
        clear hb5 hown2 heq hr1 hr2 ha hx hd2 hcl2 HOwn HCM HS
        have hol := outTo_len m 8
        go_wp2_with fail
        refine (eq_any HR1.out HR2.out (by omega)).mono ?_
        rintro e w6 ⟨rfl, hb6⟩
        have HB6 := Lib.hid (HB5.out.trans (hb6.mono HB5.out.size))
        clear hb6
        go_wp2_with fail
        go_ret
        exact ⟨rfl, HB6.out⟩
end Go.Proofs.Ytiimddkopiknpaa
