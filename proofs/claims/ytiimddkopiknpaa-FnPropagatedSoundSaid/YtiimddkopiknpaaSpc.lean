/- simplifyPropClauses: the clauses of three and more literals that watch a literal. -/
import Derived.Test.YtiimddkopiknpaaSpcA
import Derived.Test.YtiimddkopiknpaaPlan
import Derived.Test.YtiimddkopiknpaaCopy
import Derived.Deep.LoopGhost
import Derived.Deep.DeepCutAuto
import Derived.Deep.CutBlock
namespace Go.Proofs.Ytiimddkopiknpaa
open Go.RowKit
attribute [local go_sem ↓] Go.wp_at_zero Go.wp_at_succ
theorem copy_src {Λ : Lay} {w : World} {g n cap i : Nat} {cur : Array Value} {es : List (Nat × Nat)} (hg : w.heap[g]? = some (.cells cur 110 (0, 0))) (ht : cur.toList.take (n * 2) = flat Λ es) (hl : es.length = n) (hi : i < n) (hc : n ≤ cap) :
    ((flat Λ es).drop ((i + 1) * 2)).length = (n - (i + 1)) * 2 ∧
    (∀ a, (if cap = i + 1 then some (⟨g, 0, none⟩ : Addr) else some ⟨g, (i + 1) * 2, none⟩) = some a → ∀ j v, ((flat Λ es).drop ((i + 1) * 2))[j]? = some v → w.cell? (a.add j) = some v) ∧
    ∀ v ∈ (flat Λ es).drop ((i + 1) * 2), v.oneCell' = true := by
  have hlen : ((flat Λ es).drop ((i + 1) * 2)).length = (n - (i + 1)) * 2 := by rw [List.length_drop, flat_length, hl]; omega
  refine ⟨hlen, ?_, fun v hv => flat_one Λ es v (List.mem_of_mem_drop hv)⟩
  intro a ha j v hj
  have hjl := (List.getElem?_eq_some_iff.1 hj).1
  rw [hlen] at hjl
  rw [if_neg (by omega)] at ha
  injection ha with ha
  subst ha
  rw [List.getElem?_drop, ← ht, List.getElem?_take] at hj
  split at hj
  · have h1 : (⟨g, (i + 1) * 2, none⟩ : Addr).add j = ⟨g, (i + 1) * 2 + j, none⟩ := by
      unfold Addr.add; split <;> simp_all
    rw [h1]
    simpa [World.cell?, hg] using hj
  · cases hj
section
variable {Λ : Lay} {w w' : World} {m m' : List Int} {tr tr' : List Nat} {tv tv' : Value} {L L' : Nat → List Nat} {EV EV' : Nat → Value} {E E' : Nat → List (Nat × Nat)}
set_option maxRecDepth 100000 in
set_option maxHeartbeats 1000000 in
theorem spc_some (ok : LayOk Λ) {T : Thy} {Bot : Prop} {lit ptr g n cap : Nat} {v : Int} (hlit : lit < 16) (hv1 : 1 ≤ v) (hv2 : v ≤ 1000) (hn : n ≤ 1000) (hptr : ptr + 1 ≤ tr.length) (hpl : tr[ptr]? = some lit) (hr : Rnd Λ T Bot lit ptr m tr (.slice (some ⟨g, 0, none⟩) n cap) 0 0 w) :
    Calls Try.prog 51 #[.pointer (some ⟨Λ.s, 0, none⟩), litV lit, .int .i64 v] w (SpcPost Λ T Bot (ptr + 1) m tr) := by
  have f1 : w.cell? ⟨Λ.s, 9, none⟩ = some (.slice (some ⟨Λ.bh, 0, none⟩) 16 16) := let ⟨_, _, _, _, _, _, h, _⟩ := hr; h.c9
  have f2 : w.cell? ⟨Λ.bh, lit, none⟩ = some (.slice (some ⟨g, 0, none⟩) n cap) := let ⟨_, _, _, _, _, _, h, _, _, e, _⟩ := hr; (h.hc hlit).trans (by rw [e])
  have hl0 : (0 : Int) ≤ (lit : Int) := by omega
  have hl1 : (lit : Int) < 16 := by omega
  have HR := Lib.hid hr
  have HPL := Lib.hid hpl
  clear hr hpl
  unfold litV
  go_enter Try.func51, Try.ntmps51
  go_wp2_with fail
  go_loopg [8, 28] (n) (fun gk j idx wr => ∃ jj i : Nat, j = .int .i64 (jj : Int) ∧ idx = .int .i64 (i : Int) ∧ jj ≤ i ∧ i + gk = n ∧ Rnd Λ T Bot lit ptr m tr (.slice (some ⟨g, 0, none⟩) n cap) jj i wr)
  case atStart => exact ⟨0, 0, rfl, rfl, by omega, by omega, HR.out⟩
  case round =>
    obtain ⟨jj, i, rfl, rfl, hji, hgk, hr⟩ := hrel
    clear f1 f2
    by_cases hlt : i < n
    · obtain ⟨m1, tr1, tv1, L1, EV1, E1, hm, ha, hp, hev, hx, htr⟩ := hr
      have hlen : n = (E1 lit).length := own_len (hm.own lit (by omega)) hev
      obtain ⟨e, he⟩ : ∃ e, (E1 lit)[i]? = some e := ⟨_, List.getElem?_eq_getElem (by omega)⟩
      obtain ⟨e0, he0⟩ : ∃ e, (E1 lit)[jj]? = some e := ⟨_, List.getElem?_eq_getElem (by omega)⟩
      obtain ⟨hk, h3, heL, hwd⟩ := ha.reg lit hlit e (by rw [upd_same, log_split he]; simp)
      have ho16 : e.1 < 16 := (ha.ok _ hk).rng _ heL
      obtain ⟨c1, c2, cf, _, hg⟩ := hm.entry (by omega) hev he
      have HM := Lib.hid hm
      have HE := Lib.hid hev
      have HL := Lib.hid hlen
      have HI := Lib.hid he
      have HI0 := Lib.hid he0
      have HG := Lib.hid hgk
      have HA := Lib.hid ha
      have HP := Lib.hid hp
      have HX := Lib.hid hx
      have HT := Lib.hid htr
      have HW := Lib.hid hwd
      have HeL := Lib.hid heL
      rename_i hnn
      clear hm hev hlen he he0 hgk ha hp hx htr hwd heL hnn
      unfold litV at c1
      go_wp2_with fail
      have hm2 := HM.out.alloc ok (.cells #[litV e.1, .pointer (some ⟨Λ.cb e.2, 0, none⟩)] 110)
      refine (litStatus_mem hm2 ho16).mono ?_
      rintro e' w2 ⟨rfl, nd, hw2⟩
      have hm2' : Mem Λ w2 m1 tr1 tv1 L1 EV1 E1 := by rw [hw2]; exact hm2.drewN ok nd
      have d1 : w2.cell? ⟨wr.heap.size, 0, none⟩ = some (.int .i32 (e.1 : Int)) := by rw [hw2]; simp [go_sem, litV]
      have d2 : w2.cell? ⟨wr.heap.size, 1, none⟩ = some (.pointer (some ⟨Λ.cb e.2, 0, none⟩)) := by rw [hw2]; simp [go_sem]
      have HM2 := Lib.hid hm2'
      clear hw2 hm2 hm2' c1 c2 cf HM
      by_cases hs : st m1 e.1 = 1
      · have hsb : (st m1 e.1 == 1) = true := by simpa using hs
        obtain ⟨c1, c2, cf, hnn, hg⟩ := HM2.out.entry (by omega) HE.out HI0.out
        have cf1 := cf (jj * 2)
        have cf2 := cf (jj * 2 + 1)
        have HN := Lib.hid hnn
        have hs1 := Lib.hid hs
        clear cf hs hnn
        go_wp2_with fail
        go_roundg (n - (i + 1))
        case measure => have := HG.out; omega
        case rel =>
          refine ⟨jj + 1, i + 1, by go_num, by go_num, by omega, by omega, ?_⟩
          exact rnd_keep ok hlit HM2.out HA.out HP.out HE.out HX.out HT.out hji HI.out HeL.out (sat_of_st HeL.out hs1.out)
      · have hsb : (st m1 e.1 == 1) = false := by simpa using hs
        clear hs
        obtain ⟨y0, hy0⟩ : ∃ y, (L1 e.2)[0]? = some y := ⟨_, List.getElem?_eq_getElem (by omega)⟩
        obtain ⟨y1, hy1⟩ : ∃ y, (L1 e.2)[1]? = some y := ⟨_, List.getElem?_eq_getElem (by omega)⟩
        have HY0 := Lib.hid hy0
        have HY1 := Lib.hid hy1
        clear hy0 hy1
        go_wp2_with fail
        obtain ⟨x, a⟩ := HM2.out.db e.2 hk
        refine (first_any _ _ _ _ _ a y0 HY0.out).mono ?_
        rintro e' w' ⟨rfl, rfl⟩
        go_wp2_with fail
        refine (neg_any _ _ hlit).mono ?_
        rintro e' w' ⟨rfl, rfl⟩
        clear a x
        unfold litV
        go_upto_if 50 with fail
        go_cut [] (fun wx => ∃ L2 f, Mem Λ wx m1 tr1 tv1 L2 EV1 E1 ∧ Abs Λ.K T Bot m1 tr1 L2 (upd E1 lit ((E1 lit).take jj ++ (E1 lit).drop i)) ∧ Pen Λ.K m1 L2 (pd (tr1.drop (ptr + 1)) lit fun k => ∃ o, (o, k) ∈ (E1 lit).drop i) ∧
          (L2 e.2)[0]? = some f ∧ (L2 e.2)[1]? = some (neg lit))
        case first =>
          by_cases hfn : y0 = neg lit
          · have hfb : ((y0 : Int) == ((neg lit : Nat) : Int)) = true := by simp [hfn]
            have HF := Lib.hid hfn
            clear hfn
            go_wp2_with fail
            obtain ⟨x, a⟩ := HM2.out.db e.2 hk
            refine (swap_any _ _ _ _ _ a 0 1 y0 y1 HY0.out HY1.out).mono ?_
            rintro e' w3 ⟨rfl, nd3, hw3⟩
            have hm3 := HM2.out.swapped ok hk HY0.out HY1.out hw3
            have hp3 := perm_swap_one HY0.out HY1.out
            have hw3' := wd_swap01 HY0.out HY1.out
            have hg := swap_get HY0.out HY1.out
            clear hw3 a
            go_wp2_with fail
            go_meet
            exact ⟨_, y1, hm3, HA.out.reorder hp3 hw3' h3, HP.out.reorder hp3 hw3', by rw [upd_same, hg]; simp, by rw [upd_same, hg]; simp [HF.out]⟩
          · have hfb : ((y0 : Int) == ((neg lit : Nat) : Int)) = false := by simp; omega
            have HF := Lib.hid hfn
            clear hfn
            go_wp2_with fail
            go_meet
            refine ⟨_, y0, HM2.out, HA.out, HP.out, HY0.out, ?_⟩
            rcases HW.out with h | h
            · rw [HY0.out] at h; injection h with h; exact absurd h HF.out
            · exact h
        case rest =>
          obtain ⟨L2, f, hm3, ha3, hp3, hf0, hf1⟩ := hcut
          obtain ⟨_, h32, heL2, _⟩ := ha3.reg lit hlit e (by rw [upd_same, log_split HI.out]; simp)
          have hf16 : f < 16 := (ha3.ok _ hk).rng _ (List.mem_of_getElem? hf0)
          have HM3 := Lib.hid hm3
          have HA3 := Lib.hid ha3
          have HP3 := Lib.hid hp3
          have HF0 := Lib.hid hf0
          have HF1 := Lib.hid hf1
          have HeL2 := Lib.hid heL2
          clear hm3 ha3 hp3 hf0 hf1 d1 d2 HM2 HA HP HY0 HY1 HW heL2 hsb
          go_wp2_with fail
          obtain ⟨x, a⟩ := HM3.out.db e.2 hk
          refine (first_any _ _ _ _ _ a f HF0.out).mono ?_
          rintro e' w' ⟨rfl, rfl⟩
          clear a x
          unfold litV
          go_wp2_with fail
          have hm4 := HM3.out.alloc ok (.cells #[litV f, .pointer (some ⟨Λ.cb e.2, 0, none⟩)] 110)
          obtain ⟨x, a⟩ := hm4.db e.2 hk
          refine (first_any _ _ _ _ _ a f HF0.out).mono ?_
          rintro e' w' ⟨rfl, hw'⟩
          rw [← hw']
          clear hw' a x
          go_wp2_with fail
          refine (litStatus_mem hm4 hf16).mono ?_
          rintro e' w4 ⟨rfl, nd4, hw4⟩
          have hm4' : Mem Λ w4 m1 tr1 tv1 L2 EV1 E1 := by rw [hw4]; exact hm4.drewN ok nd4
          have hrow : Row w4 wc.heap.size 110 [litV f, .pointer (some ⟨Λ.cb e.2, 0, none⟩)] := by
            rw [hw4]; exact (Row.new wc 110 [litV f, .pointer (some ⟨Λ.cb e.2, 0, none⟩)]).kept (grownBy_drewN _ nd4 none) (by simp)
          have d1 : w4.cell? ⟨wc.heap.size, 0, none⟩ = some (.int .i32 (f : Int)) := hrow.cell rfl
          have d2 : w4.cell? ⟨wc.heap.size, 1, none⟩ = some (.pointer (some ⟨Λ.cb e.2, 0, none⟩)) := hrow.cell rfl
          have HRow := Lib.hid hrow
          have hbl : ∀ z, z < 32 → (EV1 z).ownBlock ≠ some wc.heap.size := fun z hz h => by have := ((HM3.out.own z hz).lt _ h).2; omega
          have HBl := Lib.hid hbl
          clear hrow hbl
          have HM4 := Lib.hid hm4'
          clear hw4 hm4 hm4' HM3
          by_cases hs : st m1 f = 1
          · have hsb : (st m1 f == 1) = true := by simpa using hs
            obtain ⟨c1, c2, cf, hnn, hg⟩ := HM4.out.entry (by omega) HE.out HI0.out
            have cf1 := cf (jj * 2)
            have cf2 := cf (jj * 2 + 1)
            have hs1 := Lib.hid hs
            clear cf hs hnn
            go_wp2_with fail
            go_roundg (n - (i + 1))
            case measure => have := HG.out; omega
            case rel =>
              refine ⟨jj + 1, i + 1, by go_num, by go_num, by omega, by omega, ?_⟩
              exact rnd_keep ok hlit HM4.out HA3.out HP3.out HE.out HX.out HT.out hji HI.out (List.mem_of_getElem? HF0.out) (sat_of_st (List.mem_of_getElem? HF0.out) hs1.out)
          · have hsb : (st m1 f == 1) = false := by simpa using hs
            have hs1 := Lib.hid hs
            clear hs
            obtain ⟨B12, hB⟩ : ∃ B, B = wc.heap.size := ⟨_, rfl⟩
            have HRow2 : Hid (Row w4 B12 110 [litV f, .pointer (some ⟨Λ.cb e.2, 0, none⟩)]) := by rw [hB]; exact HRow
            have HB12 : Hid (∀ z, z < 32 → (EV1 z).ownBlock ≠ some B12) := by rw [hB]; exact HBl
            clear HRow HBl d1 d2
            go_upto_block 2 with fail
            rw [← hB]
            clear hB
            go_cut [14] (fun s14 wx => Srch Λ T Bot lit ptr m tr (.slice (some ⟨g, 0, none⟩) n cap) jj i m1 tr1 tv1 L2 EV1 E1 B12 f e.2 s14 wx)
            case first =>
              have hL : SrchL Λ m1 tr1 tv1 L2 EV1 E1 B12 f e.2 2 w4 := ⟨HM4.out, HRow2.out, fun nn y h1 h2 => absurd h2 (by omega)⟩
              have HS := Lib.hid hL
              clear hL HRow2 HM4
              go_wp2_with fail
              go_loopg [14, 15] ((L2 e.2).length - 2) (fun gk2 s14 k wk => s14 = .bool false ∧ ∃ kk : Nat, k = .int .i64 (kk : Int) ∧ 2 ≤ kk ∧ kk + gk2 = (L2 e.2).length ∧ SrchL Λ m1 tr1 tv1 L2 EV1 E1 B12 f e.2 kk wk)
              case atStart => exact ⟨rfl, 2, rfl, by omega, by omega, HS.out⟩
              case round =>
                obtain ⟨rfl, kk, rfl, hk2, hkl, hS⟩ := hrel
                have hl8 := (HA3.out.ok _ hk).len8
                have HKL := Lib.hid hkl
                clear hkl
                by_cases hlt2 : kk < (L2 e.2).length
                · obtain ⟨hm5, hrow, hall⟩ := hS
                  obtain ⟨q, hq⟩ : ∃ q, (L2 e.2)[kk]? = some q := ⟨_, List.getElem?_eq_getElem hlt2⟩
                  have hq16 : q < 16 := (HA3.out.ok _ hk).rng _ (List.mem_of_getElem? hq)
                  have HM5 := Lib.hid hm5
                  have HR5 := Lib.hid hrow
                  have HAll := Lib.hid hall
                  have HQ := Lib.hid hq
                  clear hm5 hrow hall hq
                  go_wp2_with fail
                  obtain ⟨x, a⟩ := HM5.out.db e.2 hk
                  refine (len_any _ _ _ _ _ a).mono ?_
                  rintro e' w' ⟨rfl, rfl⟩
                  go_wp2_with fail
                  refine (get_any _ _ _ _ _ a kk q HQ.out).mono ?_
                  rintro e' w' ⟨rfl, rfl⟩
                  clear a x
                  unfold litV
                  go_wp2_with fail
                  refine (litStatus_mem HM5.out hq16).mono ?_
                  rintro e' w6 ⟨rfl, nd6, hw6⟩
                  have hm6 : Mem Λ w6 m1 tr1 tv1 L2 EV1 E1 := by rw [hw6]; exact HM5.out.drewN ok nd6
                  have hr6 : Row w6 B12 110 [litV f, .pointer (some ⟨Λ.cb e.2, 0, none⟩)] := by rw [hw6]; exact HR5.out.kept (grownBy_drewN _ nd6 none) (by simp)
                  have HM6 := Lib.hid hm6
                  have HR6 := Lib.hid hr6
                  clear hw6 hm6 hr6 HM5 HR5
                  by_cases hs2 : st m1 q = 2
                  · have hsb2 : (st m1 q != 2) = false := by simpa using hs2
                    have HS2 := Lib.hid hs2
                    clear hs2
                    go_wp2_with fail
                    go_roundg (gk - 1)
                    case measure => have := HKL.out; omega
                    case rel =>
                      refine ⟨rfl, kk + 1, by go_num, by omega, by have := HKL.out; omega, HM6.out, HR6.out, fun nn y h1 h2 h3 => ?_⟩
                      by_cases hn : nn = kk
                      · subst hn
                        have := HQ.out
                        rw [this] at h3; injection h3 with h3; subst h3
                        exact st_two.1 HS2.out
                      · exact HAll.out nn y h1 (by omega) h3
                  · have hsb2 : (st m1 q != 2) = true := by simpa using hs2
                    have HS2 := Lib.hid hs2
                    clear hs2
                    go_wp2_with fail
                    obtain ⟨x, a⟩ := HM6.out.db e.2 hk
                    refine (swap_any _ _ _ _ _ a 1 kk (neg lit) q HF1.out HQ.out).mono ?_
                    rintro e' w7 ⟨rfl, nd7, hw7⟩
                    have hm7 := HM6.out.swapped ok hk HF1.out HQ.out hw7
                    have hr7 : Row w7 B12 110 [litV f, .pointer (some ⟨Λ.cb e.2, 0, none⟩)] := by
                      obtain ⟨ex, ar⟩ := a.row
                      have hne := HR6.out.ne ar (by decide)
                      rw [hw7]
                      refine HR6.out.kept (row := some (Λ.lb e.2)) (grownBy_trans (grownBy_trans (grownBy_setCell _ ⟨Λ.lb e.2, 1, none⟩ _) (grownBy_setCell _ ⟨Λ.lb e.2, kk, none⟩ _)) (grownBy_drewN _ _ _)) ?_
                      intro hh; injection hh with hh; exact hne hh.symm
                    have HM7 := Lib.hid hm7
                    have HR7 := Lib.hid hr7
                    clear hw7 a x hm7 hr7 HM6 HR6
                    go_wp2_with fail
                    refine (neg_any _ _ hq16).mono ?_
                    rintro e' w' ⟨rfl, rfl⟩
                    unfold litV
                    go_wp2_with fail
                    have hnq := neg_lt hq16
                    have n0 : (0 : Int) ≤ ((neg q : Nat) : Int) := by omega
                    have n1 : ((neg q : Nat) : Int) < 16 := by omega
                    have n2 : ((neg q : Nat) : Int).toNat = neg q := by omega
                    obtain ⟨i0, hi0, hz0, hz1, hz2⟩ := info_parts Try.info110
                    have hE20 : (E1 (neg q)).length ≤ 20 := by
                      have hne : neg q ≠ lit := by
                        intro he
                        have h1 := (HA3.out.ok _ hk).idx HQ.out HF1.out (by omega)
                        rw [← he, neg_neg] at h1
                        exact h1 rfl
                      have h1 := HA3.out.len (y := neg q) hnq
                      rw [upd_other _ _ hne] at h1
                      exact Nat.le_trans h1 ok.hK
                    have HE20 := Lib.hid hE20
                    clear hE20
                    have f1 := HM7.out.c9
                    have f2 := HM7.out.hc hnq
                    have f3 : w7.cell? ⟨B12, 0, none⟩ = some (.int .i32 (f : Int)) := HR7.out.cell rfl
                    have f4 : w7.cell? ⟨B12, 1, none⟩ = some (.pointer (some ⟨Λ.cb e.2, 0, none⟩)) := HR7.out.cell rfl
                    refine wp_region_lex (fun w' => w'.cell? ⟨Λ.s, 9, none⟩ = some (.slice (some ⟨Λ.bh, 0, none⟩) 16 16) ∧ w'.cell? ⟨Λ.bh, neg q, none⟩ = some (EV1 (neg q)) ∧ w'.cell? ⟨B12, 0, none⟩ = some (.int .i32 (f : Int)) ∧ w'.cell? ⟨B12, 1, none⟩ = some (.pointer (some ⟨Λ.cb e.2, 0, none⟩)))
                      [false, false, false, false, false, false, false, false, false, false, false, false, false, false, false, true, true] (by kernel_rfl) (by kernel_rfl) ⟨f1, f2, f3, f4⟩ ?_
                    iterate 15
                      refine lex_take (v := ?_) (.inl ⟨by rfl, ?_⟩) (fun _ _ _ h => h) ?_
                      rotate_left
                      · (intro w hSw; (try dsimp only at hSw); go_simp; try with_reducible rfl)
                      simp only [Act.put, List.setIfInBounds_toArray, List.set]
                    refine lex_act (fun K hK => ?_)
                    go_simp
                    have hm8 := (HM7.out.alloc ok (.cells #[.int .i32 (f : Int), .pointer (some ⟨Λ.cb e.2, 0, none⟩)] 110)).drew ok
                    have hr8 := (HR7.out.alloc (.cells #[.int .i32 (f : Int), .pointer (some ⟨Λ.cb e.2, 0, none⟩)] 110)).drew
                    refine hK _ _ ⟨hm8.c9, hm8.hc hnq, hr8.cell rfl, hr8.cell rfl⟩ ?_
                    clear hK K
                    refine lex_act (fun K hK => ?_)
                    refine step_append_lies _ rfl _ _ 108 (by rfl) Λ.Bt 110 i0 (.agg #[.int .i32 0, .pointer none]) 2 16 Try.underlying108 hi0 hz0 hz1 hz2 rfl (by decide) _ _ _ (by rfl) (hm8.own (neg q) (by omega)) ⟨w7.heap.size, 0, none⟩ 1 1 [.int .i32 (f : Int), .pointer (some ⟨Λ.cb e.2, 0, none⟩)] (by rfl) rfl ?c1 ?c2 (by decide) ?c3 ?c4 ?c5 _ rfl ?_
                    case c1 =>
                      intro j u hj
                      match j, hj with
                      | 0, hj => simp at hj; subst hj; simp [go_sem, Addr.add]
                      | 1, hj => simp at hj; subst hj; simp [go_sem, Addr.add]
                    case c2 => intro u hu; simp at hu; rcases hu with rfl | rfl <;> rfl
                    case c3 => have := HE20.out; unfold maxLen; omega
                    case c4 => have := HE20.out; omega
                    case c5 => exact hm8.bt
                    intro g8 cap8 w8 hown8 hgrow8 hat8 _
                    have hc8 := Chg.ofOwn (hm8.own (neg q) (by omega)) hgrow8
                    obtain ⟨C8, rC, hC⟩ := hm8.solver
                    have t1 := (hc8.row rC (by decide)).cell hC.c9
                    have t2 := (hc8.row hm8.hdr (by decide)).cell (i := neg q) (v := EV1 (neg q)) (by simp [hnq])
                    have t2f := (hc8.row hm8.hdr (by decide)).frozen (neg q)
                    have hne8 : (EV1 (neg q)).ownBlock ≠ some B12 := HB12.out _ (by omega)
                    have hr9 := hr8.kept hgrow8 hne8
                    refine hK _ _ ⟨t1, t2, hr9.cell rfl, hr9.cell rfl⟩ ?_
                    clear hr9 hne8
                    clear hK K
                    refine lex_tail ?_
                    have hm9 := watch_step ok hm8 (y := neg q) (f := f) (k := e.2) hnq hgrow8 hown8 hat8
                    have HM9 := Lib.hid hm9
                    clear hm8 hm9 hown8 hgrow8 hat8 hc8 rC hC hr8
                    go_wp2_with fail
                    go_meet
                    refine .inr ⟨rfl, ?_⟩
                    refine rnd_move hlit HM9.out HA3.out HP3.out ?_ HX.out HT.out HI.out HF0.out HF1.out hk2 HQ.out (fun h => HS2.out (st_two.2 h)) hk
                    rw [upd_other _ _ ?_]
                    · exact HE.out
                    · intro he
                      have h1 := (HA3.out.ok _ hk).idx HQ.out HF1.out (by omega)
                      rw [he, neg_neg] at h1
                      exact h1 rfl
                · obtain ⟨hm5, hrow, hall⟩ := hS
                  have HM5 := Lib.hid hm5
                  have HR5 := Lib.hid hrow
                  have HAll := Lib.hid hall
                  clear hm5 hrow hall
                  go_wp2_with fail
                  obtain ⟨x, a⟩ := HM5.out.db e.2 hk
                  refine (len_any _ _ _ _ _ a).mono ?_
                  rintro e' w' ⟨rfl, rfl⟩
                  clear a x
                  go_wp2_with fail
                  go_meet
                  refine .inl ⟨rfl, HM5.out, HR5.out, fun nn y h1 h2 => HAll.out nn y h1 ?_ h2⟩
                  have := (List.getElem?_eq_some_iff.1 h2).1
                  omega
            case rest =>
              rcases hcut with ⟨rfl, hm5, hrow, hall⟩ | ⟨rfl, hR⟩
              · have HM5 := Lib.hid hm5
                have HR5 := Lib.hid hrow
                have HAll := Lib.hid hall
                obtain ⟨c1, c2, cf, hnn, hg5⟩ := hm5.entry (by omega) HE.out HI0.out
                have cf1 := cf (jj * 2)
                have cf2 := cf (jj * 2 + 1)
                have f3 : wc.cell? ⟨B12, 0, none⟩ = some (.int .i32 (f : Int)) := hrow.cell rfl
                have f4 : wc.cell? ⟨B12, 1, none⟩ = some (.pointer (some ⟨Λ.cb e.2, 0, none⟩)) := hrow.cell rfl
                clear hm5 hrow hall cf hnn
                by_cases hs3 : st m1 f = 2
                · have hsb3 : (st m1 f == 2) = true := by simpa using hs3
                  have HS3 := Lib.hid hs3
                  clear hs3
                  have hm6 := HM5.out.setEntry ok (z := lit) (i := jj) (f, e.2) (by omega) HE.out
                  have HM6 := Lib.hid hm6
                  clear hm6 HM5
                  obtain ⟨cur, hcur, hcap, hsz, htk⟩ := HM6.out.lt_row (z := lit) (by omega) HE.out
                  simp only [upd_same, List.length_set] at hcap htk
                  rw [← HL.out] at hcap htk
                  have HC1 := Lib.hid hcur
                  have HC2 := Lib.hid hsz
                  have HC3 := Lib.hid htk
                  clear hcur hsz htk
                  have g1 : (0 : Int) ≤ (jj : Int) + 1 := by omega
                  have g2 : (jj : Int) + 1 ≤ (n : Int) := by omega
                  have g1' : ((jj : Int) + 1).toNat = jj + 1 := by omega
                  have g3' : ((i : Int) + 1).toNat = i + 1 := by omega
                  have g3 : (0 : Int) ≤ (i : Int) + 1 := by omega
                  have g4 : (i : Int) + 1 ≤ (n : Int) := by omega
                  have g5 : IntKind.i64.wrap ((i : Int) + 1) = (i : Int) + 1 := IntWalk.i64_in _ (by omega)
                  go_wp2_with fail
                  refine wp_region_lex (fun _ => True) [false, false, false, false, false, false, false, true] (by kernel_rfl) (by kernel_rfl) trivial ?_
                  iterate 7
                    refine lex_take (v := ?_) (.inl ⟨by rfl, ?_⟩) (fun _ _ _ h => h) ?_
                    rotate_left
                    · (intro w hSw; clear hSw; go_simp; try with_reducible rfl)
                    simp only [Act.put, List.setIfInBounds_toArray, List.set]
                  refine lex_act (fun K hK => ?_)
                  obtain ⟨i0, hi0, hz0, hz1, hz2⟩ := info_parts Try.info110
                  have hcp := copy_src HC1.out HC3.out (n := n) (cap := cap) (i := i) (by simp [HL.out]) hlt hcap
                  refine step_copy_size rfl _ _ 108 108 (by rfl) 110 i0 Try.underlying108 hi0 g (if cap = jj + 1 then 0 else (jj + 1) * 2) (n - (jj + 1)) (cap - (jj + 1)) cur 110 ?d (HC1.out) (if cap = i + 1 then some ⟨g, 0, none⟩ else some ⟨g, (i + 1) * 2, none⟩) (n - (i + 1)) (cap - (i + 1)) ?s ((flat Λ ((E1 lit).set jj (f, e.2))).drop ((i + 1) * 2)) ?n ?src hcp.2.1 ?fit hcp.2.2 ?_
                  case d =>
                    go_simp
                    split <;> rfl
                  case s =>
                    go_simp
                  case n =>
                    have hmin : Nat.min (n - (i + 1)) (n - (jj + 1)) = n - (i + 1) := Nat.min_eq_left (by omega)
                    rw [hcp.1, hmin, hz1]
                  case src =>
                    intro hh
                    split at hh <;> cases hh
                  case fit =>
                    rw [hcp.1, HC2.out]
                    split <;> omega
                  have HM8 := HM6.out.drew ok
                  have hc8 := Chg.ofOwn (HM8.own lit (by omega)) (w' := World.setRow (World.drew ((wc.setCell { block := g, off := jj * 2 } (litV f)).setCell { block := g, off := jj * 2 + 1 } (Value.pointer (some { block := Λ.cb e.snd, off := 0 })))) g (cur.toList.take (if cap = jj + 1 then 0 else (jj + 1) * 2) ++ (flat Λ ((E1 lit).set jj (f, e.2))).drop ((i + 1) * 2) ++ cur.toList.drop ((if cap = jj + 1 then 0 else (jj + 1) * 2) + ((flat Λ ((E1 lit).set jj (f, e.2))).drop ((i + 1) * 2)).length)).toArray) (by rw [HE.out]; exact grownBy_setRow _ g _)
                  obtain ⟨w8, hw8⟩ : ∃ w8, w8 = (World.setRow (World.drew ((wc.setCell { block := g, off := jj * 2 } (litV f)).setCell { block := g, off := jj * 2 + 1 } (Value.pointer (some { block := Λ.cb e.snd, off := 0 })))) g (cur.toList.take (if cap = jj + 1 then 0 else (jj + 1) * 2) ++ (flat Λ ((E1 lit).set jj (f, e.2))).drop ((i + 1) * 2) ++ cur.toList.drop ((if cap = jj + 1 then 0 else (jj + 1) * 2) + ((flat Λ ((E1 lit).set jj (f, e.2))).drop ((i + 1) * 2)).length)).toArray) := ⟨_, rfl⟩
                  unfold litV at hw8 hc8
                  rw [← hw8] at hc8 ⊢
                  clear hw8
                  refine hK _ _ trivial ?_
                  clear hK K
                  refine lex_tail ?_
                  obtain ⟨C8, rC, hC⟩ := HM8.solver
                  have rC8 := hc8.row rC (by decide)
                  have t1 := rC8.cell hC.c9
                  have t2 : ∃ hx, w8.cell? ⟨Λ.bh, lit, none⟩ = some hx := ⟨_, (hc8.row HM8.hdr (by decide)).cell (i := lit) (v := EV1 lit) (by simp [hlit])⟩
                  obtain ⟨hx, t2⟩ := t2
                  have t2f := (hc8.row HM8.hdr (by decide)).frozen lit
                  have rm8 := hc8.row HM8.model (by decide)
                  have hW : Weak Λ w8 := by
                    refine ⟨HM8.below ok hc8.hg ?_, C8, tv1, m1, rC8, hC, rm8, HM8.mlen⟩
                    exact own_le (HM8.own lit (by omega)) ok.bBt
                  have nb1 : Λ.bh ≠ Λ.s := Ne.symm HM8.s_bh
                  have nb2 : Λ.bh ≠ Λ.bm := HM8.hdr.ne HM8.model (by decide)
                  have HWk := Lib.hid hW
                  clear hW rC rC8 hc8 rm8 hC HM8
                  have b1 : IntKind.i64.wrap ((i : Int) + 1 - ((jj : Int) + 1)) = ((i - jj : Nat) : Int) := by rw [IntWalk.i64_in _ (by omega)]; omega
                  have b2 : IntKind.i64.wrap ((n : Int) - ((i - jj : Nat) : Int)) = ((n - (i - jj) : Nat) : Int) := by rw [IntWalk.i64_in _ (by omega)]; omega
                  have b3 : ((n - (i - jj) : Nat) : Int) ≤ (cap : Int) := by omega
                  have b4 : (0 : Int) ≤ ((n - (i - jj) : Nat) : Int) := by omega
                  have b5 : (((n - (i - jj) : Nat) : Int)).toNat = n - (i - jj) := by omega
                  generalize (if cap = jj + 1 then (some ⟨g, 0, none⟩ : Option Addr) else some ⟨g, (jj + 1) * 2, none⟩) = sD
                  generalize (if cap = i + 1 then (some ⟨g, 0, none⟩ : Option Addr) else some ⟨g, (i + 1) * 2, none⟩) = sS
                  go_wp2_with fail
                  refine wp_region_lex (fun w' => w'.cell? ⟨Λ.s, 9, none⟩ = some (.slice (some ⟨Λ.bh, 0, none⟩) 16 16))
                    [false, false, false, false, false, false, false, false, false, false, false, false, false, false, false] (by kernel_rfl) (by kernel_rfl) t1 ?_
                  iterate 15
                    refine lex_take (v := ?_) (.inl ⟨by rfl, ?_⟩) (fun _ _ _ h => h) ?_
                    rotate_left
                    · (intro w hSw; (try dsimp only at hSw); go_simp; try with_reducible rfl)
                    simp only [Act.put, List.setIfInBounds_toArray, List.set]
                  refine lex_tail ?_
                  go_wp2_with fail
                  go_ret
                  refine .inl ⟨_, rfl, ?_, ?_⟩
                  · refine HA3.out.confl hk fun y hy => ?_
                    obtain ⟨p, hp⟩ := List.getElem?_of_mem hy
                    rcases p with _ | _ | p
                    · have h0 := HF0.out
                      rw [h0] at hp; injection hp with hp
                      rw [← hp]; exact st_two.1 HS3.out
                    · have h0 := HF1.out
                      rw [h0] at hp; injection hp with hp
                      rw [← hp, fls_iff, neg_neg]
                      obtain ⟨x, hx⟩ := HT.out
                      exact (HA3.out.trt lit (by rw [hx]; exact List.mem_append_left _ (List.mem_of_getElem? HPL.out))).2
                    · exact HAll.out _ y (by omega) hp
                  · refine (HWk.out).grown ok (row := some Λ.bh) ?_ (some_le ok.bbh) ?_ ?_
                    · exact grownBy_trans (grownBy_setCell _ ⟨Λ.bh, lit, none⟩ _) (grownBy_drew _ _)
                    · intro hh; injection hh with hh; exact nb1 hh
                    · intro hh; injection hh with hh; exact nb2 hh
                · have hsb3 : (st m1 f == 2) = false := by simpa using hs3
                  have HS3 := Lib.hid hs3
                  clear hs3
                  have hm6 := HM5.out.setEntry ok (z := lit) (i := jj) (f, e.2) (by omega) HE.out
                  have HM6 := Lib.hid hm6
                  clear hm6 HM5
                  go_wp2_with fail
                  obtain ⟨x, a⟩ := HM6.out.db e.2 hk
                  refine (first_any _ _ _ _ _ a f HF0.out).mono ?_
                  rintro e' w' ⟨rfl, hw'⟩
                  rw [← hw']
                  clear hw' a x
                  go_wp2_with fail
                  have hbn : tr1.length ≤ 1000 := by have := HA3.out.bnd; omega
                  refine (propUnit_mem ok HM6.out hk hf16 (by omega) hv2 hbn).mono ?_
                  rintro e' w7 ⟨rfl, tv7, hm7⟩
                  have HM7 := Lib.hid hm7
                  clear hm7 hbn HM6
                  go_wp2_with fail
                  go_roundg (n - (i + 1))
                  case measure => have := HG.out; omega
                  case rel =>
                    refine ⟨jj + 1, i + 1, by go_num, by go_num, by omega, by omega, ?_⟩
                    refine rnd_unit hlit ?_ HM7.out HA3.out HP3.out HE.out HX.out HT.out hji HI.out hk (List.mem_of_getElem? HF0.out) ?_ (by omega) ?_
                    · obtain ⟨x, hx⟩ := HT.out
                      rw [hx, List.length_append]; omega
                    · have h1 := hs1.out
                      have h2 := HS3.out
                      unfold st at h1 h2
                      split at h1
                      · assumption
                      · split at h1 <;> simp_all
                    · refine HA3.out.unit hk (List.mem_of_getElem? HF0.out) fun y hy hne => ?_
                      obtain ⟨p, hp⟩ := List.getElem?_of_mem hy
                      rcases p with _ | _ | p
                      · have h0 := HF0.out
                        rw [h0] at hp; injection hp with hp
                        exact absurd hp.symm hne
                      · have h0 := HF1.out
                        rw [h0] at hp; injection hp with hp
                        rw [← hp, fls_iff, neg_neg]
                        obtain ⟨x, hx⟩ := HT.out
                        exact (HA3.out.trt lit (by rw [hx]; exact List.mem_append_left _ (List.mem_of_getElem? HPL.out))).2
                      · exact HAll.out _ y (by omega) hp
              · have HR := Lib.hid hR
                clear hR
                go_wp2_with fail
                go_roundg (n - (i + 1))
                case measure => have := HG.out; omega
                case rel => exact ⟨jj, i + 1, by go_num, by go_num, by omega, by omega, HR.out⟩
    · obtain ⟨m1, tr1, tv1, L1, EV1, E1, hm, ha, hp, hev, hx, htr⟩ := hr
      have hlen : n = (E1 lit).length := own_len (hm.own lit (by omega)) hev
      obtain ⟨cur, _, hcap, _, _⟩ := hm.lt_row (z := lit) (by omega) hev
      rw [← hlen] at hcap
      have g1 : (0 : Int) ≤ (jj : Int) := by omega
      have g2 : (jj : Int) ≤ (cap : Int) := by omega
      have g3 : ((jj : Int)).toNat = jj := by omega
      have t1 := hm.c9
      have t2 := hm.hc hlit
      have t2f := hm.hf lit
      have HM := Lib.hid hm
      have HE := Lib.hid hev
      have HL := Lib.hid hlen
      have HG := Lib.hid hgk
      have HA := Lib.hid ha
      have HP := Lib.hid hp
      have HX := Lib.hid hx
      have HT := Lib.hid htr
      clear hm hev hlen hgk ha hp hx htr
      go_wp2_with fail
      refine wp_region_lex (fun w' => w'.cell? ⟨Λ.s, 9, none⟩ = some (.slice (some ⟨Λ.bh, 0, none⟩) 16 16))
        [false, false, false, false, false, false, false, false, false] (by kernel_rfl) (by kernel_rfl) t1 ?_
      iterate 9
        refine lex_take (v := ?_) (.inl ⟨by rfl, ?_⟩) (fun _ _ _ h => h) ?_
        rotate_left
        · (intro w hSw; (try dsimp only at hSw); go_simp; try with_reducible rfl)
        simp only [Act.put, List.setIfInBounds_toArray, List.set]
      refine lex_tail ?_
      go_wp2_with fail
      go_ret
      have hin : i = n := by have := HG.out; omega
      have hd : (E1 lit).drop i = [] := List.drop_eq_nil_of_le (by have := HL.out; omega)
      have ho := HM.out.own lit (by omega)
      rw [HE.out, ← HL.out] at ho
      have ho2 := own_cut ho (show jj ≤ n by omega)
      rw [flat_take] at ho2
      have hjl : jj = ((E1 lit).take jj).length := by rw [List.length_take, ← HL.out]; omega
      have hm2 := (HM.out.drew ok).chWatch ok (y := lit) (es := (E1 lit).take jj) hlit (grownBy_refl _ _) (v := .slice (some ⟨g, 0, none⟩) jj cap) (by rw [← hjl]; exact own_drew ho2) (.inl (by rw [HE.out]; rfl))
      refine .inr ⟨rfl, m1, tr1, tv1, L1, _, _, hm2, ?_, ?_, HX.out, HT.out⟩
      · have := HA.out
        rwa [hd, List.append_nil] at this
      · refine HP.out.finish fun k _ hR => ?_
        rw [hd] at hR
        obtain ⟨_, hR⟩ := hR
        cases hR

set_option maxRecDepth 100000 in
set_option maxHeartbeats 1000000 in
theorem spc_none (ok : LayOk Λ) {T : Thy} {Bot : Prop} {lit ptr : Nat} {v : Int} (hlit : lit < 16) (hm : Mem Λ w m tr tv L EV E) (ha : Abs Λ.K T Bot m tr L E)
    (hp : Pen Λ.K m L (pd (tr.drop (ptr + 1)) lit fun k => ∃ o, (o, k) ∈ E lit)) (he : E lit = []) (hev : EV lit = .slice none 0 0) :
    Calls Try.prog 51 #[.pointer (some ⟨Λ.s, 0, none⟩), litV lit, .int .i64 v] w (SpcPost Λ T Bot (ptr + 1) m tr) := by
  have f1 := hm.c9
  have f2 := hm.hc hlit
  rw [hev] at f2
  have f3 := hm.hf lit
  have hl0 : (0 : Int) ≤ (lit : Int) := by omega
  have hl1 : (lit : Int) < 16 := by omega
  have HM := Lib.hid hm
  have HEV := Lib.hid hev
  clear hm hev
  unfold litV
  go_enter Try.func51, Try.ntmps51
  go_wp2_with fail
  go_loopg [8, 28] 0 (fun gk j idx wr => j = .int .i64 0 ∧ idx = .int .i64 0 ∧ wr = w)
  case atStart => exact ⟨rfl, rfl, rfl⟩
  case round =>
    obtain ⟨rfl, rfl, rfl⟩ := hrel
    go_wp2_with fail
    refine wp_region_lex (fun w' => w'.cell? ⟨Λ.s, 9, none⟩ = some (.slice (some ⟨Λ.bh, 0, none⟩) 16 16))
      [false, false, false, false, false, false, false, false, false] (by kernel_rfl) (by kernel_rfl) f1 ?_
    iterate 9
      refine lex_take (v := ?_) (.inl ⟨by rfl, ?_⟩) (fun _ _ _ h => h) ?_
      rotate_left
      · (intro w hSw; (try dsimp only at hSw); go_simp; try with_reducible rfl)
      simp only [Act.put, List.setIfInBounds_toArray, List.set]
    refine lex_tail ?_
    go_wp2_with fail
    go_ret
    have hm2 := (HM.out.drew ok).chWatch ok (y := lit) (es := []) hlit (grownBy_refl _ _) (v := .slice none 0 0) ⟨rfl, .inl ⟨rfl, rfl⟩⟩ (.inl (by rw [HEV.out]))
    refine .inr ⟨rfl, m, tr, tv, L, _, _, hm2, ?_, ?_, .refl _, [], by simp⟩
    · rw [← he, upd_self]; exact ha
    · refine hp.finish fun k _ hR => ?_
      rw [he] at hR
      obtain ⟨_, hR⟩ := hR
      cases hR

/-- simplifyPropClauses. -/
theorem spc_mem (ok : LayOk Λ) {T : Thy} {Bot : Prop} {lit ptr : Nat} {v : Int} (hlit : lit < 16) (hv1 : 1 ≤ v) (hv2 : v ≤ 1000) (hm : Mem Λ w m tr tv L EV E) (ha : Abs Λ.K T Bot m tr L E)
    (hpl : tr[ptr]? = some lit) (hp : Pen Λ.K m L (pd (tr.drop (ptr + 1)) lit fun k => ∃ o, (o, k) ∈ E lit)) :
    Calls Try.prog 51 #[.pointer (some ⟨Λ.s, 0, none⟩), litV lit, .int .i64 v] w (SpcPost Λ T Bot (ptr + 1) m tr) := by
  rcases (hm.own lit (by omega)).2 with ⟨he, hx⟩ | ⟨g, cap, cur, he, _⟩
  · refine spc_none ok hlit hm ha hp ?_ he
    have h1 := (hm.own lit (by omega)).1
    rw [hx, flat_length] at h1
    have h2 : (E lit).length * 2 = 0 := by simpa using h1
    exact List.eq_nil_of_length_eq_zero (by omega)
  · have h20 : (E lit).length ≤ 1000 := by have := ha.len hlit; have := ok.hK; omega
    refine spc_some ok hlit hv1 hv2 h20 ?_ hpl ⟨m, tr, tv, L, EV, E, hm, ?_, ?_, he, .refl _, [], by simp⟩
    · have := (List.getElem?_eq_some_iff.1 hpl).1; omega
    · simp only [List.take_zero, List.drop_zero, List.nil_append]
      rw [upd_self]; exact ha
    · simpa using hp
end
end Go.Proofs.Ytiimddkopiknpaa
