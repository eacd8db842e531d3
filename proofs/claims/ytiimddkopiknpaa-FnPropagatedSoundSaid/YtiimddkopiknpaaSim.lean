/- simplify2: the contract sim_mem. -/
import Derived.Test.YtiimddkopiknpaaSimA
namespace Go.Proofs.Ytiimddkopiknpaa
open Go.RowKit
attribute [local go_sem ↓] Go.wp_at_zero Go.wp_at_succ

def SimPost (Φ : PL) (C : List (List Nat)) (T : Nat → Prop) (Bot : Prop) (n0 K : Nat) (cb lb : Nat → Nat) (mv : Value) (e : Ending) (w : World) : Prop :=
  e = .returned (.tuple #[]) ∧ ((Bot ∧ ∃ us uv CS cv L m, PMem Φ w 2 us uv CS cv K cb lb L mv m) ∨
    ∃ st us uv CS cv L m, (st = 0 ∨ st = 1) ∧ PMem Φ w st us uv CS cv K cb lb L mv m ∧ PAbs C T Bot m us CS L ∧ (∀ k ∈ CS, k < K) ∧ CS.length ≤ n0 ∧ Opn m CS L)

section
variable {Φ : PL} {C : List (List Nat)} {T : Nat → Prop} {Bot : Prop} {n0 K : Nat} {cb lb : Nat → Nat} {mv : Value}

set_option maxRecDepth 100000 in
set_option maxHeartbeats 1000000 in
theorem sim_mem {us : List Nat} {uv : Value} {CS : List Nat} {cv : Value} {L : Nat → List Nat} {m : List Int} {w : World} {bm : Nat} (hmv : mv = .slice (some ⟨bm, 0, none⟩) 8 8) (hn0 : n0 ≤ 100) (h : SimS Φ C T Bot n0 K cb lb mv n0 us uv CS cv L m w) :
    Calls Try.prog 48 #[.pointer (some ⟨Φ.p, 0, none⟩)] w (SimPost Φ C T Bot n0 K cb lb mv) := by
  obtain ⟨a, cap, hcv, _, _, _⟩ := own_form h.1.cls
  have f1 := h.1.pc (i := 1) rfl
  rw [hcv, h.2.2.2.1] at f1
  have H := Lib.hid h
  clear h hcv
  go_enter Try.func48, Try.ntmps48
  go_wp2_with fail
  go_loopg [2, 3] (n0 + 1) (fun gk nbv rv wr => ∃ (nb : Nat) (r : Bool), nbv = .int .i64 (nb : Int) ∧ rv = .bool r ∧ gk = (if r then nb + 1 else 0) ∧ OutR Φ C T Bot n0 K cb lb mv r nb wr)
  case atStart => exact ⟨n0, true, rfl, rfl, rfl, us, uv, CS, cv, L, m, H.out, fun e => by cases e⟩
  case round =>
    clear H f1
    obtain ⟨nb, r, rfl, rfl, hgk, hr⟩ := hrel
    have HG := Lib.hid hgk
    clear hgk
    cases r with
    | false =>
      obtain ⟨us, uv, CS, cv, L, m, hs, ho⟩ := hr
      have HS := Lib.hid hs
      have HO := Lib.hid ho
      clear hs ho
      go_wp2_with fail
      refine (upd_mem (n := nb) HS.out.1 (by rw [HS.out.2.2.2.1]; exact HS.out.2.2.1)).mono ?_
      rintro e w' ⟨rfl, cv', st', hst, hp⟩
      have HP := Lib.hid hp
      clear hp
      go_wp2_with fail
      go_end0
      refine ⟨rfl, .inr ⟨st', us, uv, CS.take nb, cv', L, m, hst, HP.out, HS.out.2.1, fun k hk => HS.out.2.2.2.2 k (List.mem_of_mem_take hk), ?_, HO.out (by trivial)⟩⟩
      have := HS.out.2.2.1
      simp; omega
    | true =>
      have HR := Lib.hid hr
      clear hr
      have hG : gk = nb + 1 := HG.out
      have HG2 := Lib.hid hG
      clear hG HG
      go_wp2_with fail
      go_loopg [2, 3, 4] nb (fun gk2 nbv rv iv wk => ∃ (nb2 : Nat) (r : Bool) (i : Nat), nbv = .int .i64 (nb2 : Int) ∧ rv = .bool r ∧ iv = .int .i64 (i : Int) ∧ gk2 = nb2 - i ∧ InR Φ C T Bot n0 K cb lb mv nb r nb2 i wk)
      case atStart =>
        obtain ⟨us, uv, CS, cv, L, m, hs, ho⟩ := HR.out
        exact ⟨nb, false, 0, rfl, rfl, rfl, rfl, us, uv, CS, cv, L, m, hs, fun _ => by simp [Opn], (fun e => by cases e), Nat.le_refl _⟩
      case round =>
        clear HR
        obtain ⟨nb2, r, i, rfl, rfl, rfl, hgk2, us, uv, CS, cv, L, m, hs, ho, hrN, hN⟩ := hrel
        have HG3 := Lib.hid hgk2
        clear hgk2
        by_cases hi : i < nb2
        · obtain ⟨a, cap, hcv, hcap, hmx, ha⟩ := own_form hs.1.cls
          obtain ⟨g, rfl⟩ := ha (by have := hs.2.2.2.1; have := hs.2.2.1; omega)
          obtain ⟨k, hk⟩ : ∃ k, CS[i]? = some k := ⟨_, List.getElem?_eq_getElem (by have := hs.2.2.2.1; have := hs.2.2.1; omega)⟩
          have hkK : k < K := hs.2.2.2.2 k (List.mem_of_getElem? hk)
          have f1 := hs.1.pc (i := 1) rfl
          have f2 : _ := own_cell hs.1.cls (i := i) (u := .pointer (some ⟨cb k, 0, none⟩)) (by simp [ptrs, hk])
          obtain ⟨g', cap', e1, f2, f2f, _, _⟩ := f2
          rw [hcv] at e1
          injection e1 with e1 _ _
          injection e1 with e1
          injection e1 with e1
          subst e1
          rw [hcv, hs.2.2.2.1] at f1
          have i0 : (0 : Int) ≤ (i : Int) := by omega
          have i1 : (i : Int) < (n0 : Int) := by have := hs.2.2.1; omega
          obtain ⟨hcl, h2, _⟩ := hs.2.1.cl k (List.mem_of_getElem? (take_get hi hk))
          have HS := Lib.hid hs
          have HK := Lib.hid hk
          have HCV := Lib.hid hcv
          have HCl := Lib.hid hcl
          have HO := Lib.hid ho
          have HN := Lib.hid hrN
          clear hs hk hcv hcl ho hrN
          go_wp2_with fail
          refine (len_any _ _ _ _ _ (HS.out.1.db k hkK)).mono ?_
          rintro e' w' ⟨rfl, rfl⟩
          go_upto_block 4 with fail
          go_cut [6, 7] (fun nlv satv wx => ∃ (l : List Nat) (nl : Nat), nlv = .int .i64 (nl : Int) ∧ PMem Φ wx 0 us uv CS cv K cb lb (upd L k l) mv m ∧ ((satv = .bool true ∧ SatC m (L k)) ∨ (satv = .bool false ∧ Jr m (L k) l nl nl)))
          case first =>
            clear f1 f2 f2f
            have hml := HS.out.2.1.mlen
            have hmval := HS.out.2.1.mval
            have HV := Lib.hid hmval
            clear hmval
            go_wp2_with fail
            go_loopg [6, 7, 8] ((L k).length) (fun gk3 nlv satv jv wj => ∃ (l : List Nat) (nl j : Nat), nlv = .int .i64 (nl : Int) ∧ satv = .bool false ∧ jv = .int .i64 (j : Int) ∧ gk3 = nl - j ∧ PMem Φ wj 0 us uv CS cv K cb lb (upd L k l) mv m ∧ Jr m (L k) l nl j)
            case atStart => exact ⟨L k, (L k).length, 0, rfl, rfl, rfl, rfl, by rw [upd_self]; exact HS.out.1, Jr.start HCl.out⟩
            case round =>
              obtain ⟨l, nl, j, rfl, rfl, rfl, hgk3, hp, hj⟩ := hrel
              have HG4 := Lib.hid hgk3
              have hl8 := HCl.out.len8
              have hnl : nl ≤ 8 := by have := hj.nle; have := hj.len; omega
              have HJ := Lib.hid hj
              have hll := hj.nle
              clear hgk3 hj
              by_cases hjl : j < nl
              · obtain ⟨x, hx⟩ : ∃ x, l[j]? = some x := ⟨_, List.getElem?_eq_getElem (by omega)⟩
                obtain ⟨hxm, hx16⟩ := HJ.out.mem hjl hx
                have ha := hp.db k hkK
                rw [upd_same] at ha
                have HA := Lib.hid ha
                have HPj := Lib.hid hp
                have HX := Lib.hid hx
                clear ha hp hx hxm
                go_wp2_with fail
                refine (get_any _ _ _ _ _ HA.out j x HX.out).mono ?_
                rintro e' w' ⟨rfl, rfl⟩
                go_wp2_with fail
                go_loopg [6, 7, 10] (nl - (j + 1)) (fun gk4 nlv satv kv wk => ∃ q : Nat, nlv = .int .i64 (nl : Int) ∧ satv = .bool false ∧ kv = .int .i64 (q : Int) ∧ q ≤ nl ∧ j + 1 ≤ q ∧ gk4 = nl - q ∧ wk = wr)
                case atStart => exact ⟨j + 1, rfl, rfl, by go_num, by omega, by omega, by omega, rfl⟩
                case round =>
                  obtain ⟨q, rfl, rfl, rfl, hq1, hq2, hgk4, hwe⟩ := hrel
                  subst hwe
                  have HG5 := Lib.hid hgk4
                  clear hgk4
                  by_cases hq : q < nl
                  · obtain ⟨y, hy⟩ : ∃ y, l[q]? = some y := ⟨_, List.getElem?_eq_getElem (by omega)⟩
                    have hne := HJ.out.two hjl hq (by omega) HX.out hy
                    have HY := Lib.hid hy
                    clear hy
                    go_wp2_with fail
                    refine (get_any _ _ _ _ _ HA.out q y HY.out).mono ?_
                    rintro e' w' ⟨rfl, rfl⟩
                    unfold litV
                    go_wp2_with fail
                    refine (neg_any _ _ hx16).mono ?_
                    rintro e' w' ⟨rfl, rfl⟩
                    have b1 : ((y : Int) == ((neg x : Nat) : Int)) = false := by
                      have : neg x / 2 = x / 2 := neg_var x
                      simp; omega
                    have b2 : ((y : Int) == (x : Int)) = false := by simp; omega
                    unfold litV
                    go_wp2_with fail
                    go_roundg (nl - (q + 1))
                    case measure => have := HG5.out; omega
                    case rel => exact ⟨q + 1, rfl, rfl, by go_num, by omega, by omega, by omega, rfl⟩
                  · obtain ⟨hrow, _, _⟩ := HPj.out.md hmv
                    have g1 := HPj.out.pc (i := 4) (v := .slice (some ⟨bm, 0, none⟩) 8 8) (by rw [hmv]; rfl)
                    have g2 : wr.cell? ⟨bm, x / 2, none⟩ = some (.int .i64 (m.getD (x / 2) 0)) := hrow.cell (by
                      have hlt : x / 2 < m.length := by omega
                      simp [List.getElem?_eq_getElem hlt])
                    have hz : m.getD (x / 2) 0 = 0 ∨ m.getD (x / 2) 0 = 1 ∨ m.getD (x / 2) 0 = -1 := by
                      have hlt : x / 2 < m.length := by omega
                      rw [List.getD_eq_getElem?_getD, List.getElem?_eq_getElem hlt]
                      exact HV.out _ (List.getElem_mem hlt)
                    have hlv : lv m x = sgn x (m.getD (x / 2) 0) := rfl
                    have x0 : (0 : Int) ≤ (x : Int) / 2 := by omega
                    have x1 : (x : Int) / 2 < 8 := by omega
                    have x2 : ((x : Int) / 2).toNat = x / 2 := by omega
                    clear hrow
                    generalize m.getD (x / 2) 0 = z at g2 hz hlv
                    have HLV := Lib.hid hlv
                    have HZ := Lib.hid hz
                    clear hlv hz HG5
                    unfold litV
                    go_wp2_with fail
                    go_region_held3 (fun w' => w'.cell? ⟨Φ.p, 4, none⟩ = some (.slice (some ⟨bm, 0, none⟩) 8 8) ∧ w'.cell? ⟨bm, x / 2, none⟩ = some (.int .i64 z)) (go_keep) (first | (go_at_call 44; refine (var_any _ _ hx16).mono ?_; rintro e' w' ⟨rfl, rfl⟩))
                    rename_i hHeld
                    clear hHeld
                    have HPk := Lib.hid HPj.out.drew
                    have HAk := Lib.hid (HA.out.drewN 1)
                    obtain ⟨wd, hwd⟩ : ∃ wd, wd = wr.drew := ⟨_, rfl⟩
                    have hwd' : wr.drewN 1 = wd := hwd.symm
                    rw [← hwd] at HPk ⊢
                    rw [hwd'] at HAk
                    have g1' : wd.cell? ⟨Φ.p, 4, none⟩ = some (.slice (some ⟨bm, 0, none⟩) 8 8) := by rw [hwd]; exact g1
                    have g2' : wd.cell? ⟨bm, x / 2, none⟩ = some (.int .i64 z) := by rw [hwd]; exact g2
                    clear hwd hwd' HPj HA g1 g2
                    by_cases hz0 : z = 0
                    · have hzb : (z == 0) = true := by simpa using hz0
                      go_wp2_with fail
                      go_roundg (nl - (j + 1))
                      case measure => have := HG4.out; omega
                      case rel => exact ⟨l, nl, j + 1, rfl, rfl, by go_num, rfl, HPk.out, HJ.out.next hjl HX.out (by rw [HLV.out]; exact (sgn_zero _ _).2 hz0)⟩
                    · have hzb : (z == 0) = false := by simpa using hz0
                      go_wp2_with fail
                      go_region_held3 (fun w' => w'.cell? ⟨Φ.p, 4, none⟩ = some (.slice (some ⟨bm, 0, none⟩) 8 8) ∧ w'.cell? ⟨bm, x / 2, none⟩ = some (.int .i64 z)) (go_keep) (first | (go_at_call 44; refine (var_any _ _ hx16).mono ?_; rintro e' w' ⟨rfl, rfl⟩) | (go_at_call 43; refine (pos_any _ _ hx16).mono ?_; rintro e' w' ⟨rfl, rfl⟩))
                      rename_i hHeld
                      clear hHeld
                      have HPm := Lib.hid HPk.out.drew
                      have HAm := Lib.hid (HAk.out.drewN 1)
                      obtain ⟨we, hwe⟩ : ∃ we, we = wd.drew := ⟨_, rfl⟩
                      have hwe' : wd.drewN 1 = we := hwe.symm
                      rw [← hwe] at HPm ⊢
                      rw [hwe'] at HAm
                      clear hwe hwe' HPk HAk g1' g2'
                      have c1 : IntKind.i64.wrap ((nl : Int) - 1) = ((nl - 1 : Nat) : Int) := by rw [IntWalk.i64_in _ (by omega)]; omega
                      go_wp2_with fail
                      · rename_i hb
                        go_meet
                        refine ⟨l, nl, rfl, HPm.out, .inl ⟨rfl, x, (HJ.out.mem hjl HX.out).1, ?_⟩⟩
                        unfold tru
                        rw [HLV.out]
                        have := HZ.out
                        unfold sgn
                        by_cases p2 : x % 2 = 0
                        · have p1 : z = 1 := by simpa [p2] using hb
                          rw [if_pos p2]; omega
                        · have p1 : ¬ z = 1 := by simpa [p2] using hb
                          rw [if_neg p2]; omega
                      · rename_i hb _ _
                        have ht : sgn x z < 0 := by
                          have := HZ.out
                          unfold sgn
                          by_cases p2 : x % 2 = 0
                          · have p1 : ¬ z = 1 := by simpa [p2] using hb
                            rw [if_pos p2]; omega
                          · have p1 : z = 1 := by simpa [p2] using hb
                            rw [if_neg p2]; omega
                        obtain ⟨y, hy⟩ : ∃ y, l[nl - 1]? = some y := ⟨_, List.getElem?_eq_getElem (by omega)⟩
                        have HY := Lib.hid hy
                        clear hy
                        refine (get_any _ _ _ _ _ HAm.out (nl - 1) y HY.out).mono ?_
                        rintro e' w' ⟨rfl, rfl⟩
                        go_wp2_with fail
                        refine (setLit_any _ _ _ _ _ HAm.out j y (by omega)).mono ?_
                        rintro e' w' ⟨rfl, hw'⟩
                        have hps := HPm.out.set (y := y) (i := j) hkK (by rw [upd_same]; omega)
                        rw [upd_same, upd_upd, hw'] at hps
                        have HPs := Lib.hid hps
                        clear hps hw' HPm HAm
                        go_wp2_with fail
                        go_roundg (nl - 1 - j)
                        case measure => have := HG4.out; omega
                        case rel =>
                          refine ⟨l.set j y, nl - 1, j, rfl, rfl, rfl, rfl, HPs.out, HJ.out.drop hjl HX.out HY.out ?_⟩
                          unfold fls
                          rw [HLV.out]; exact ht
              · go_wp2_with fail
                go_meet
                have : j = nl := by have := HJ.out.jle; omega
                subst this
                exact ⟨l, j, rfl, hp, .inr ⟨rfl, HJ.out⟩⟩
          case rest =>
            obtain ⟨l, nl, rfl, hp, hcase⟩ := hcut
            have HP := Lib.hid hp
            clear hp
            rcases hcase with ⟨rfl, hsat⟩ | ⟨rfl, hj⟩
            · have HSat := Lib.hid hsat
              clear hsat f1 f2 f2f
              obtain ⟨z, hz⟩ : ∃ z, CS[nb2 - 1]? = some z := ⟨_, List.getElem?_eq_getElem (by have := HS.out.2.2.2.1; have := HS.out.2.2.1; omega)⟩
              obtain ⟨_, _, e1, t1, t1f, _, _⟩ := own_cell HP.out.cls (i := i) (u := .pointer (some ⟨cb k, 0, none⟩)) (by simp [ptrs, HK.out])
              obtain ⟨_, _, e2, t2, _, _, _⟩ := own_cell HP.out.cls (i := nb2 - 1) (u := .pointer (some ⟨cb z, 0, none⟩)) (by simp [ptrs, hz])
              rw [HCV.out] at e1 e2
              injection e1 with e1 _ _
              injection e1 with e1
              injection e1 with e1
              injection e2 with e2 _ _
              injection e2 with e2
              injection e2 with e2
              subst e1 e2
              have t0 := HP.out.pc (i := 1) rfl
              rw [HCV.out, HS.out.2.2.2.1] at t0
              have hput := (HP.out.drew.put HCV.out i z)
              have HPut := Lib.hid hput
              have HZ := Lib.hid hz
              clear hput hz
              have hnb := HS.out.2.2.1
              have c1 : IntKind.i64.wrap ((nb2 : Int) - 1) = ((nb2 - 1 : Nat) : Int) := by rw [IntWalk.i64_in _ (by omega)]; omega
              have c2 : (0 : Int) ≤ ((nb2 - 1 : Nat) : Int) := by omega
              have c3 : ((nb2 - 1 : Nat) : Int) < (n0 : Int) := by have := HS.out.2.2.1; omega
              have c4 : (((nb2 - 1 : Nat) : Int)).toNat = nb2 - 1 := by omega
              go_wp2_with fail
              refine wp_region_lex (fun w' => w'.cell? ⟨Φ.p, 1, none⟩ = some (.slice (some ⟨g, 0, none⟩) n0 cap) ∧ w'.cell? ⟨g, nb2 - 1, none⟩ = some (.pointer (some ⟨cb z, 0, none⟩)))
                [false, false, false, false, false, false, false, false, false, false, false, false] (by kernel_rfl) (by kernel_rfl) ⟨t0, t2⟩ ?_
              iterate 12
                refine lex_take (v := ?_) (.inl ⟨by rfl, ?_⟩) (fun _ _ _ h => h) ?_
                rotate_left
                · (intro w hSw; (try dsimp only at hSw); go_simp; try with_reducible rfl)
                simp only [Act.put, List.setIfInBounds_toArray, List.set]
              refine lex_tail ?_
              go_wp2_with fail
              go_roundg (nb2 - 1 - i)
              case measure => have := HG3.out; omega
              case rel => exact ⟨nb2 - 1, r, i, rfl, rfl, rfl, rfl, InR.drop HS.out hi HK.out HZ.out HSat.out HPut.out HO.out HN.out hN⟩
            · have HJ := Lib.hid hj
              clear hj f1 f2 f2f
              have hnl8 : nl ≤ 8 := by have := HJ.out.nle; have := HJ.out.len; have := HCl.out.len8; omega
              by_cases hn0' : nl = 0
              · subst hn0'
                have t2 := HP.out.pc (i := 2) rfl
                have t2f := HP.out.pf 2
                go_wp2_with fail
                go_end0
                exact ⟨rfl, .inl ⟨HS.out.2.1.empty (List.mem_of_getElem? (take_get hi HK.out)) HJ.out, us, uv, CS, cv, _, m, HP.out.status 2⟩⟩
              · by_cases hn1 : nl = 1
                · subst hn1
                  clear hn0'
                  obtain ⟨x, hx⟩ : ∃ x, l[0]? = some x := ⟨_, List.getElem?_eq_getElem (by have := HJ.out.nle; omega)⟩
                  have hx16 := (HJ.out.mem (by omega) hx).2
                  have hx0 := HJ.out.opn 0 (by omega) x hx
                  have ha := HP.out.db k hkK
                  rw [upd_same] at ha
                  have hub : us.length ≤ 1000 := by have := HS.out.2.1.bnd; omega
                  have HA := Lib.hid ha
                  have HX := Lib.hid hx
                  have HX0 := Lib.hid hx0
                  clear ha hx hx0
                  go_wp2_with fail
                  refine (first_any _ _ _ _ _ HA.out x HX.out).mono ?_
                  rintro e' w' ⟨rfl, rfl⟩
                  go_wp2_with fail
                  refine (addUnit_mem HP.out hmv hx16 HX0.out hub).mono ?_
                  rintro e' w3 ⟨rfl, uv', hp3⟩
                  have HP3 := Lib.hid hp3
                  have t9 := hp3.pc (i := 2) rfl
                  clear hp3 HP HA hub
                  obtain ⟨z, hz⟩ : ∃ z, CS[nb2 - 1]? = some z := ⟨_, List.getElem?_eq_getElem (by have := HS.out.2.2.2.1; have := HS.out.2.2.1; omega)⟩
                  obtain ⟨_, _, e1, t1, t1f, _, _⟩ := own_cell HP3.out.cls (i := i) (u := .pointer (some ⟨cb k, 0, none⟩)) (by simp [ptrs, HK.out])
                  obtain ⟨_, _, e2, t2, _, _, _⟩ := own_cell HP3.out.cls (i := nb2 - 1) (u := .pointer (some ⟨cb z, 0, none⟩)) (by simp [ptrs, hz])
                  rw [HCV.out] at e1 e2
                  injection e1 with e1 _ _
                  injection e1 with e1
                  injection e1 with e1
                  injection e2 with e2 _ _
                  injection e2 with e2
                  injection e2 with e2
                  subst e1 e2
                  have t0 := HP3.out.pc (i := 1) rfl
                  rw [HCV.out, HS.out.2.2.2.1] at t0
                  have hput := (HP3.out.drew.put HCV.out i z)
                  have HPut := Lib.hid hput
                  have HZ := Lib.hid hz
                  clear hput hz
                  have hnb := HS.out.2.2.1
                  have c1 : IntKind.i64.wrap ((nb2 : Int) - 1) = ((nb2 - 1 : Nat) : Int) := by rw [IntWalk.i64_in _ (by omega)]; omega
                  have c2 : (0 : Int) ≤ ((nb2 - 1 : Nat) : Int) := by omega
                  have c3 : ((nb2 - 1 : Nat) : Int) < (n0 : Int) := by have := HS.out.2.2.1; omega
                  have c4 : (((nb2 - 1 : Nat) : Int)).toNat = nb2 - 1 := by omega
                  go_wp2_with fail
                  refine wp_region_lex (fun w' => w'.cell? ⟨Φ.p, 1, none⟩ = some (.slice (some ⟨g, 0, none⟩) n0 cap) ∧ w'.cell? ⟨g, nb2 - 1, none⟩ = some (.pointer (some ⟨cb z, 0, none⟩)))
                    [false, false, false, false, false, false, false, false, false, false, false, false] (by kernel_rfl) (by kernel_rfl) ⟨t0, t2⟩ ?_
                  iterate 12
                    refine lex_take (v := ?_) (.inl ⟨by rfl, ?_⟩) (fun _ _ _ h => h) ?_
                    rotate_left
                    · (intro w hSw; (try dsimp only at hSw); go_simp; try with_reducible rfl)
                    simp only [Act.put, List.setIfInBounds_toArray, List.set]
                  refine lex_tail ?_
                  go_wp2_with fail
                  go_roundg (nb2 - 1 - i)
                  case measure => have := HG3.out; omega
                  case rel => exact ⟨nb2 - 1, true, i, rfl, rfl, rfl, rfl, InR.unit HS.out hi HK.out HZ.out HJ.out HX.out HX0.out HPut.out hN⟩
                · have b0 : ((nl : Int) == 0) = false := by simpa using hn0'
                  have b1 : ((nl : Int) == 1) = false := by simp; omega
                  have ha := HP.out.db k hkK
                  rw [upd_same] at ha
                  have HA := Lib.hid ha
                  clear ha
                  go_wp2_with fail
                  refine (len_any _ _ _ _ _ HA.out).mono ?_
                  rintro e' w' ⟨rfl, rfl⟩
                  by_cases hle : l.length = nl
                  · have b2 : ((l.length : Int) != (nl : Int)) = false := by simp [hle]
                    go_wp2_with fail
                    go_roundg (nb2 - (i + 1))
                    case measure => have := HG3.out; omega
                    case rel =>
                      refine ⟨nb2, r, i + 1, rfl, rfl, by go_num, rfl, InR.keep HS.out hi HK.out HJ.out (by omega) ?_ HO.out HN.out hN⟩
                      rw [List.take_of_length_le (by omega)]; exact HP.out
                  · have b2 : ((l.length : Int) != (nl : Int)) = true := by simp; omega
                    go_wp2_with fail
                    refine (shrink_any _ _ _ _ _ HA.out nl HJ.out.nle).mono ?_
                    rintro e' w3 ⟨rfl, cap3, hcap3, _, hw3⟩
                    have hp3 := HP.out.shrink (n := nl) hkK (by rw [upd_same]; exact HJ.out.nle) (by rw [upd_same]; exact hcap3) hw3
                    rw [upd_same, upd_upd] at hp3
                    have HP3 := Lib.hid hp3
                    clear hp3 hw3 HP HA
                    go_wp2_with fail
                    go_roundg (nb2 - (i + 1))
                    case measure => have := HG3.out; omega
                    case rel => exact ⟨nb2, r, i + 1, rfl, rfl, by go_num, rfl, InR.keep HS.out hi HK.out HJ.out (by omega) HP3.out HO.out HN.out hN⟩
        · go_wp2_with fail
          go_roundg (if r then nb2 + 1 else 0)
          case measure =>
            have h1 := HG2.out
            by_cases hr : r = true
            · have := hrN hr
              rw [if_pos hr]; omega
            · rw [if_neg hr]; omega
          case rel =>
            refine ⟨nb2, r, rfl, rfl, rfl, us, uv, CS, cv, L, m, hs, fun e => ?_⟩
            have := ho e
            rwa [List.take_take, Nat.min_eq_right (by omega)] at this
end
end Go.Proofs.Ytiimddkopiknpaa
