/- The specification's side: stand: the contract stand_any. -/
import Derived.Test.YtiimddkopiknpaaSpeB
namespace Go.Proofs.Ytiimddkopiknpaa
open Go.RowKit
attribute [local go_sem ↓] Go.wp_at_zero Go.wp_at_succ

def StandPost (T : Nat → Prop) (Bot : Prop) (cs : List (List Int)) (ds : List Int) (w : World) (e : Ending) (w' : World) : Prop :=
  Below w.heap.size w w' ∧ ((Bot ∧ e = .returned (.tuple #[.slice none 0 0, .bool true])) ∨
    ∃ (g N : Nat) (s : List Int), e = .returned (.tuple #[.slice (some ⟨g, 0, none⟩) (N + 1) (N + 1), .bool false]) ∧ Row w' g 3 (s.map (Value.int .i64)) ∧ w.heap.size ≤ g ∧ N ≤ 8 ∧ SAbs N T s ∧
      (∀ c ∈ cs, ∀ x ∈ c, x.natAbs ≤ N) ∧ (∀ d ∈ ds, d.natAbs ≤ N ∧ slit s d = 1) ∧ ∀ c ∈ cs, CloS s c)

theorem sp_force {N : Nat} {T : Nat → Prop} {Bot : Prop} {s c : List Int} {x : Int} (ha : SAbs N T s) (hc : ClsOk c) (hcN : ∀ x ∈ c, x.natAbs ≤ N) (hT : Rules T Bot (c.map enc)) (hx : x ∈ c) (h : ∀ y ∈ c, y ≠ x → slit s y = -1) : T (enc x) := by
  refine hT.one _ (List.mem_map_of_mem hx) fun y hy hne => ?_
  obtain ⟨z, hz, rfl⟩ := List.mem_map.1 hy
  have hz0 := hc.rng z hz
  rw [enc_neg hz0]
  refine ha.sound _ (by unfold LitOk at *; omega) (by rw [Int.natAbs_neg]; exact hcN z hz) ?_
  rw [slit_neg hz0.1, h z hz (fun e => hne (by rw [e]))]
  rfl
theorem sp_empty {N : Nat} {T : Nat → Prop} {Bot : Prop} {s c : List Int} (ha : SAbs N T s) (hc : ClsOk c) (hcN : ∀ x ∈ c, x.natAbs ≤ N) (hT : Rules T Bot (c.map enc)) (h : ∀ y ∈ c, slit s y = -1) : Bot := by
  refine hT.none fun y hy => ?_
  obtain ⟨z, hz, rfl⟩ := List.mem_map.1 hy
  have hz0 := hc.rng z hz
  rw [enc_neg hz0]
  refine ha.sound _ (by unfold LitOk at *; omega) (by rw [Int.natAbs_neg]; exact hcN z hz) ?_
  rw [slit_neg hz0.1, h z hz]
  rfl

theorem SAbs.start (N : Nat) (T : Nat → Prop) : SAbs N T (List.replicate (N + 1) 0) := by
  have h0 : ∀ k, (List.replicate (N + 1) (0 : Int)).getD k 0 = 0 := fun k => by
    rw [List.getD_eq_getElem?_getD, List.getElem?_replicate]
    split <;> rfl
  refine ⟨by simp, fun v hv => .inl (List.eq_of_mem_replicate hv), h0 0, fun x _ _ h => ?_⟩
  unfold slit at h
  rw [h0] at h
  split at h <;> omega

set_option maxRecDepth 100000 in
set_option maxHeartbeats 1000000 in
theorem stand_any {T : Nat → Prop} {Bot : Prop} {cs : List (List Int)} {ds : List Int} {v dv : Value} {w : World} (hbot : ∀ l, l < 16 → T l → T (neg l) → Bot) (hok : ∀ c ∈ cs, ClsOk c) (hlen : cs.length ≤ 20) (hne : cs ≠ [])
    (hT : ∀ c ∈ cs, Rules T Bot (c.map enc)) (hin : MatIn w v cs) (hds : RowIn w dv ds) (hdl : ds.length ≤ 8) (hd : ∀ d ∈ ds, LitOk d ∧ T (enc d)) :
    Calls Try.prog 19 #[v, dv] w (StandPost T Bot cs ds w) := by
  have HDI := Lib.hid hds
  have HB := Lib.hid hbot
  have HOK := Lib.hid hok
  have HT := Lib.hid hT
  have HD := Lib.hid hd
  have hl1 : ∀ c ∈ cs, ∀ x ∈ c, -8 ≤ x ∧ x ≤ 8 := fun c hc x hx => ((hok c hc).rng x hx).2
  have hl2 : ∀ c ∈ [ds], ∀ x ∈ c, -8 ≤ x ∧ x ≤ 8 := fun c hc x hx => by rw [List.mem_singleton.1 hc] at hx; exact (hd x hx).1.2
  have HL2 := Lib.hid hl2
  obtain ⟨A, C, hdv, _, _, _, _, hdcell⟩ := hds
  subst hdv
  obtain ⟨b0, o0, C0, hv, hcell⟩ := hin.full hne
  subst hv
  have HDC := Lib.hid hdcell
  have HCell := Lib.hid hcell
  clear hbot hok hT hd hl2 hne hdcell hcell
  go_enter Try.func19, Try.ntmps19
  go_wp2_with fail
  refine (vars_any hin hl1).mono ?_
  clear hin hl1
  rintro e w' ⟨⟨N1, rfl, h8, hN1⟩, rfl⟩
  have HN1 := Lib.hid hN1
  clear hN1
  have hm2 : MatIn (w.alloc (.cells #[.slice A ds.length C] 23)) (.slice (some ⟨w.heap.size, 0, none⟩) 1 1) [ds] := by
    refine ⟨_, 1, rfl, by simp, by unfold maxLen; omega, by simp, fun j c hc => ?_⟩
    match j, hc with
    | 0, hc =>
      simp at hc
      subst hc
      exact ⟨_, 0, .slice A ds.length C, rfl, (Row.new w 23 [.slice A ds.length C]).cell rfl, HDI.out.below ((Below.refl _ _).alloc (Nat.le_refl _) _)⟩
  go_wp2_with fail
  refine (vars_any hm2 HL2.out).mono ?_
  clear hm2
  rintro e w' ⟨⟨N2, rfl, h82, hN2⟩, rfl⟩
  have hN2' : ∀ x ∈ ds, x.natAbs ≤ N2 := hN2 ds (by simp)
  have HN2 := Lib.hid hN2'
  clear hN2 hN2'
  obtain ⟨N, hN, hle1, hle2, hN8⟩ : ∃ N : Nat, (((N1 : Int) < (N2 : Int) ∧ N = N2) ∨ (¬ (N1 : Int) < (N2 : Int) ∧ N = N1)) ∧ N1 ≤ N ∧ N2 ≤ N ∧ N ≤ 8 := by
    by_cases h : (N1 : Int) < (N2 : Int)
    · exact ⟨N2, .inl ⟨h, rfl⟩, by omega, by omega, h82⟩
    · exact ⟨N1, .inr ⟨h, rfl⟩, by omega, by omega, h8⟩
  have hNc : ∀ c ∈ cs, ∀ x ∈ c, x.natAbs ≤ N := fun c hc x hx => Nat.le_trans (HN1.out c hc x hx) hle1
  have hNd : ∀ x ∈ ds, x.natAbs ≤ N := fun x hx => Nat.le_trans (HN2.out x hx) hle2
  have HNC := Lib.hid hNc
  have HND := Lib.hid hNd
  clear HN1 HN2 hNc hNd
  have hmk : ∀ w : World, (Instr.makeSlice 44 (.int .i64 ((N : Int) + 1)) (.int .i64 ((N : Int) + 1))).run Try.prog w = .ok (.slice (some ⟨w.heap.size, 0, none⟩) (N + 1) (N + 1)) (w.alloc (.cells (Array.replicate (N + 1) (.int .i64 0)) 3)) :=
    fun w => mk_row 44 3 (.int .i64 0) 8 Try.underlying44 Try.info3 rfl (N + 1) (by omega) (by omega) w
  have hb1 : Below w.heap.size w (w.alloc (.cells #[.slice A ds.length C] 23)) := (Below.refl _ _).alloc (Nat.le_refl _) _
  obtain ⟨w1, hw1⟩ : ∃ w1, w1 = w.alloc (.cells #[.slice A ds.length C] 23) := ⟨_, rfl⟩
  rw [← hw1] at hb1 ⊢
  clear hw1 HL2
  have hrow : Row (w1.alloc (.cells (Array.replicate (N + 1) (.int .i64 0)) 3)) w1.heap.size 3 ((List.replicate (N + 1) 0).map (Value.int .i64)) := by
    have := Row.make w1 3 (.int .i64 0) (N + 1)
    rw [List.map_replicate]
    exact this
  have hb2 := hb1.alloc hb1.size (.cells (Array.replicate (N + 1) (.int .i64 0)) 3)
  have hgl : w.heap.size ≤ w1.heap.size := hb1.size
  have HB2 := Lib.hid hb2
  have HRow := Lib.hid hrow
  have HGL := Lib.hid hgl
  clear hb1 hb2 hrow hgl
  have hdlen : ds.length ≤ 9223372036854775807 := by omega
  have hds0 : ∀ d ∈ ds, LitOk d ∧ d.natAbs < N + 1 := fun d hd => ⟨(HD.out d hd).1, by have := HND.out d hd; omega⟩
  have HDS0 := Lib.hid hds0
  clear hds0
  rcases hN with ⟨h, e⟩ | ⟨h, e⟩
  all_goals
    subst e
    go_upto_block 0 with fail
    obtain ⟨g, hg⟩ : ∃ g, g = w1.heap.size := ⟨_, rfl⟩
    rw [← hg] at HRow HGL ⊢
    obtain ⟨w2, hw2⟩ : ∃ w2, w2 = w1.alloc (.cells (Array.replicate (N + 1) (.int .i64 0)) 3) := ⟨_, rfl⟩
    rw [← hw2] at HB2 HRow ⊢
    clear hw2 hg hmk h
    go_cut [] (fun wx => ∃ s, Row wx g 3 (s.map (Value.int .i64)) ∧ Below w.heap.size w wx ∧ SAbs N T s ∧ ∀ d ∈ ds, slit s d = 1)
    case first =>
      go_wp2_with fail
      go_loopg [24] (ds.length) (fun gk idx wr => ∃ (i : Nat) (s : List Int), idx = .int .i64 (i : Int) ∧ i + gk = ds.length ∧ Row wr g 3 (s.map (Value.int .i64)) ∧ Below w.heap.size w wr ∧ SAbs N T s ∧ ∀ d ∈ ds.take i, slit s d = 1)
      case atStart => exact ⟨0, _, rfl, by omega, HRow.out, HB2.out, SAbs.start N T, by simp⟩
      case round =>
        obtain ⟨i, s, rfl, hgk, hr, hb, ha, hall⟩ := hrel
        have HG := Lib.hid hgk
        have HR := Lib.hid hr
        have HBl := Lib.hid hb
        have HA := Lib.hid ha
        have HAll := Lib.hid hall
        clear hgk hr hb ha hall HB2 HRow
        by_cases hlt : i < ds.length
        · obtain ⟨d, hd⟩ : ∃ d, ds[i]? = some d := ⟨_, List.getElem?_eq_getElem hlt⟩
          obtain ⟨b1, o1, hA, hc1⟩ := HDC.out i d hd
          have hc2 := HBl.out.cell (cell_lt hc1)
          rw [hc1] at hc2
          subst hA
          obtain ⟨hdl2, hdN⟩ := HDS0.out d (List.mem_of_getElem? hd)
          have hdT := (HD.out d (List.mem_of_getElem? hd)).2
          have HDi := Lib.hid hd
          have HLO := Lib.hid hdl2
          have HDT := Lib.hid hdT
          clear hd hdl2 hdT hc1
          go_wp2_with fail
          refine (sof_any HR.out HA.out.len.symm hdN (by omega) HA.out.val).mono ?_
          rintro e w' ⟨rfl, rfl⟩
          by_cases hz : slit s d = -1
          · have hbo : Bot := by
              refine HB.out (enc d) (enc_lt HLO.out) HDT.out ?_
              rw [enc_neg HLO.out]
              refine HA.out.sound _ (by have := HLO.out; unfold LitOk at *; omega) (by rw [Int.natAbs_neg]; omega) ?_
              rw [slit_neg HLO.out.1, hz]
              rfl
            rw [hz]
            go_wp2_with fail
            go_ret2
            exact ⟨HBl.out, .inl ⟨hbo, rfl⟩⟩
          · have hz0 : ¬ slit s d < 0 := by have := HA.out.lit d; omega
            have HZ := Lib.hid hz
            clear hz
            go_wp2_with fail
            refine (sset_any HR.out HA.out.len.symm hdN (by omega)).mono ?_
            rintro e w' ⟨rfl, hr2, hg2⟩
            have hb2 : Below w.heap.size w w' := HBl.out.grown hg2 HBl.out.size (fun k hk => by cases hk; exact HGL.out)
            have ha2 := HA.out.set HLO.out (by omega) HDT.out
            have hlen2 : d.natAbs < s.length := by rw [HA.out.len]; exact hdN
            have hext := sext_set hlen2 HLO.out.1 HZ.out
            have hall2 : ∀ x ∈ ds.take (i + 1), slit (sset s d) x = 1 := fun x hx => by
              rcases mem_take_succ HDi.out hx with h1 | h1
              · exact hext x (HDS0.out x (List.mem_of_mem_take h1)).1.1 (HAll.out x h1)
              · rw [h1, slit_sset hlen2 HLO.out.1 HLO.out.1, if_pos rfl]
            have H1 := Lib.hid hr2
            have H2 := Lib.hid hb2
            have H3 := Lib.hid ha2
            have H4 := Lib.hid hall2
            clear hr2 hg2 hb2 ha2 hlen2 hext hall2 hz0 hc2
            go_wp2_with fail
            go_roundg (gk - 1)
            case measure => have := HG.out; omega
            case rel => exact ⟨i + 1, _, by go_num, by have := HG.out; omega, H1.out, H2.out, H3.out, H4.out⟩
        · go_wp2_with fail
          go_meet
          refine ⟨s, HR.out, HBl.out, HA.out, ?_⟩
          have := HAll.out
          rw [List.take_of_length_le (by omega)] at this
          exact this
    case rest =>
      obtain ⟨s0, hr0, hb0, ha0, hd0⟩ := hcut
      have HR0 := Lib.hid hr0
      have HB0 := Lib.hid hb0
      have HA0 := Lib.hid ha0
      have HD0 := Lib.hid hd0
      clear hr0 hb0 ha0 hd0 HB2 HRow
      go_wp2_with fail
      go_loopg [9] (2 * s0.count 0 + 1) (fun gk av wr => ∃ (s : List Int) (b : Bool), av = .bool b ∧ gk = 2 * s.count 0 + (if b then 1 else 0) ∧ Row wr g 3 (s.map (Value.int .i64)) ∧ Below w.heap.size w wr ∧ SAbs N T s ∧ (∀ d ∈ ds, slit s d = 1) ∧ (b = false → ∀ c ∈ cs, CloS s c))
      case atStart => exact ⟨s0, true, rfl, rfl, HR0.out, HB0.out, HA0.out, HD0.out, fun h => by cases h⟩
      case round =>
        clear HR0 HB0 HA0 HD0
        obtain ⟨s, b, rfl, hgk, hr, hb, ha, hdd, hcl⟩ := hrel
        have HG := Lib.hid hgk
        have HR := Lib.hid hr
        have HBl := Lib.hid hb
        have HA := Lib.hid ha
        have HDD := Lib.hid hdd
        have HCl := Lib.hid hcl
        clear hgk hr hb ha hdd hcl
        obtain ⟨gk1, hgk1⟩ : ∃ k, k = gk := ⟨_, rfl⟩
        subst hgk1
        cases b
        · go_wp2_with fail
          go_ret2
          exact ⟨HBl.out, .inr ⟨g, N, s, rfl, HR.out, HGL.out, hN8, HA.out, HNC.out, fun d hd => ⟨HND.out d hd, HDD.out d hd⟩, HCl.out (by trivial)⟩⟩
        · go_wp2_with fail
          go_loopg [39, 9] (cs.length) (fun gk idx av wk => ∃ (i : Nat) (s' : List Int) (b : Bool), idx = .int .i64 (i : Int) ∧ av = .bool b ∧ i + gk = cs.length ∧ Row wk g 3 (s'.map (Value.int .i64)) ∧ Below w.heap.size w wk ∧ SAbs N T s' ∧ (∀ d ∈ ds, slit s' d = 1) ∧
            (b = false → s' = s ∧ ∀ c ∈ cs.take i, CloS s c) ∧ (b = true → s'.count 0 < s.count 0))
          case atStart => exact ⟨0, s, false, rfl, rfl, by omega, HR.out, HBl.out, HA.out, HDD.out, fun _ => ⟨rfl, by simp⟩, fun h => by cases h⟩
          case round =>
            obtain ⟨i, s', b, rfl, rfl, hgk, hr, hb, ha, hdd, hf, ht⟩ := hrel
            have HG2 := Lib.hid hgk
            have HR2 := Lib.hid hr
            have HBl2 := Lib.hid hb
            have HA2 := Lib.hid ha
            have HDD2 := Lib.hid hdd
            have HF := Lib.hid hf
            have HTr := Lib.hid ht
            clear hgk hr hb ha hdd hf ht
            by_cases hlt : i < cs.length
            · obtain ⟨c, hc⟩ : ∃ c, cs[i]? = some c := ⟨_, List.getElem?_eq_getElem hlt⟩
              obtain ⟨rv, c1, hrv⟩ := HCell.out i c hc
              have c2 := HBl2.out.cell (cell_lt c1)
              rw [c1] at c2
              have hrv2 := hrv.below HBl2.out
              have hcm := List.mem_of_getElem? hc
              have HC := Lib.hid hc
              have HRV := Lib.hid hrv2
              clear hc c1 hrv hrv2
              go_wp2_with fail
              refine (frc_any HR2.out HA2.out rfl hN8 HRV.out (HOK.out c hcm) (HNC.out c hcm)).mono ?_
              clear c2
              rintro e w' (⟨rfl, rfl, h⟩ | ⟨rfl, x, hx, hx0, hxa, hr3, hg3⟩ | ⟨rfl, rfl, h⟩)
              · have HH := Lib.hid h
                clear h
                cases b
                · go_wp2_with fail
                  go_roundg (gk - 1)
                  case measure => have := HG2.out; omega
                  case rel =>
                    obtain ⟨e1, e2⟩ := HF.out (by trivial)
                    refine ⟨i + 1, s', false, by go_num, rfl, by have := HG2.out; omega, HR2.out, HBl2.out, HA2.out, HDD2.out, fun _ => ⟨e1, fun c' hc' => ?_⟩, fun h => by cases h⟩
                    rcases mem_take_succ HC.out hc' with h1 | h1
                    · exact e2 c' h1
                    · rw [h1, ← e1]; exact HH.out
                · go_wp2_with fail
                  go_roundg (gk - 1)
                  case measure => have := HG2.out; omega
                  case rel => exact ⟨i + 1, s', true, by go_num, rfl, by have := HG2.out; omega, HR2.out, HBl2.out, HA2.out, HDD2.out, (fun h => by cases h), fun _ => HTr.out (by trivial)⟩
              · have hok1 := HOK.out c hcm
                have hTx := sp_force HA2.out hok1 (HNC.out c hcm) (HT.out c hcm) hx hxa
                have hxl := hok1.rng x hx
                have hxN := HNC.out c hcm x hx
                have hlen2 : x.natAbs < s'.length := by rw [HA2.out.len]; omega
                have hcnt := scount_set hlen2 hx0
                have hext := sext_set hlen2 hxl.1 (by omega)
                have ha3 := HA2.out.set hxl hxN hTx
                have hb3 : Below w.heap.size w w' := HBl2.out.grown hg3 HBl2.out.size (fun k hk => by cases hk; exact HGL.out)
                have hd3 : ∀ d ∈ ds, slit (sset s' x) d = 1 := fun d hd => hext d (HDS0.out d hd).1.1 (HDD2.out d hd)
                have hlt3 : (sset s' x).count 0 < s.count 0 := by
                  cases b
                  · rw [(HF.out rfl).1] at hcnt ⊢; omega
                  · have := HTr.out rfl; omega
                have H1 := Lib.hid hr3
                have H2 := Lib.hid ha3
                have H3 := Lib.hid hb3
                have H4 := Lib.hid hd3
                have H5 := Lib.hid hlt3
                clear hok1 hTx hxl hlen2 hcnt hext ha3 hb3 hd3 hlt3 hr3 hg3 hxa hx0
                cases b
                · go_wp2_with fail
                  go_roundg (gk - 1)
                  case measure => have := HG2.out; omega
                  case rel => exact ⟨i + 1, _, true, by go_num, rfl, by have := HG2.out; omega, H1.out, H3.out, H2.out, H4.out, (fun h => by cases h), fun _ => H5.out⟩
                · go_wp2_with fail
                  go_roundg (gk - 1)
                  case measure => have := HG2.out; omega
                  case rel => exact ⟨i + 1, _, true, by go_num, rfl, by have := HG2.out; omega, H1.out, H3.out, H2.out, H4.out, (fun h => by cases h), fun _ => H5.out⟩
              · have hbo := sp_empty HA2.out (HOK.out c hcm) (HNC.out c hcm) (HT.out c hcm) h
                clear h
                go_wp2_with fail
                go_ret2
                exact ⟨HBl2.out, .inl ⟨hbo, rfl⟩⟩
            · go_wp2_with fail
              cases b
              · obtain ⟨e1, e2⟩ := HF.out rfl
                rw [List.take_of_length_le (by omega)] at e2
                go_roundg (2 * s'.count 0)
                case measure => have := HG.out; rw [e1]; simp at this; omega
                case rel => exact ⟨s', false, rfl, by simp, HR2.out, HBl2.out, HA2.out, HDD2.out, fun _ => by rw [e1]; exact e2⟩
              · go_roundg (2 * s'.count 0 + 1)
                case measure => have := HG.out; have := HTr.out rfl; simp at *; omega
                case rel => exact ⟨s', true, rfl, by simp, HR2.out, HBl2.out, HA2.out, HDD2.out, fun h => by cases h⟩
end Go.Proofs.Ytiimddkopiknpaa
