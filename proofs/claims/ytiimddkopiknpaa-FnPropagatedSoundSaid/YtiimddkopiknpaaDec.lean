/- zzDecided: a solver of clauses under decisions: the contract dec_mem. -/
import Derived.Test.YtiimddkopiknpaaNew
import Derived.Test.YtiimddkopiknpaaUni
namespace Go.Proofs.Ytiimddkopiknpaa
open Go.RowKit
attribute [local go_sem ↓] Go.wp_at_zero Go.wp_at_succ

theorem results_tmp4 {fn : Func} {t u v x : Tmp} (h : fn.results = #[.tmp t, .tmp u, .tmp v, .tmp x]) (tmps : Array Value) (P : Program) (w : World) :
    (results fn tmps).run P w = .ok (.tuple #[tmps.getD t undef, tmps.getD u undef, tmps.getD v undef, tmps.getD x undef]) w := by
  simp [results, h]

/-- Numbers in memory, below B. -/
structure IntsAt (w : World) (B g : Nat) (xs : List Int) : Prop where
  lt : g < B
  row : ∀ j x, xs[j]? = some x → w.cell? ⟨g, j, none⟩ = some (.int .i64 x)
theorem IntsAt.below {w w' : World} {B g : Nat} {xs : List Int} (h : IntsAt w B g xs) (hb : Below B w w') : IntsAt w' B g xs :=
  ⟨h.lt, fun j x hx => by rw [below_cell hb h.lt]; exact h.row j x hx⟩

/-- A clause that neither is satisfied nor has two open literals is not there. -/
def Clo (m : List Int) (c : List Nat) : Prop := SatC m c ∨ ∃ x ∈ c, ∃ y ∈ c, x ≠ y ∧ ¬ fls m x ∧ ¬ fls m y

theorem clo_of {K : Nat} {T : Thy} {Bot : Prop} {m0 m : List Int} {tr : List Nat} {L : Nat → List Nat} {E : Nat → List (Nat × Nat)} (ha : Abs K T Bot m tr L E) (hp : Pen K m L (qu [])) (hx : Ext m0 m) {c : List Nat}
    (h : SatC m0 c ∨ ∃ k, k < K ∧ Cov m0 (T.L0 k) c) : Clo m c := by
  rcases h with ⟨x, hx1, hx2⟩ | ⟨k, hk, hc⟩
  · exact .inl ⟨x, hx1, hx x hx2⟩
  · have p := ha.prm k hk
    rcases hp.closed hk with ⟨x, h1, h2⟩ | h1
    · exact .inl ⟨x, hc.2 x (p.mem_iff.1 h1), h2⟩
    · have h2 := ha.len2 k hk
      have e0 : (L k)[0]? = some (L k)[0] := List.getElem?_eq_getElem (by omega)
      have e1 : (L k)[1]? = some (L k)[1] := List.getElem?_eq_getElem (by omega)
      refine .inr ⟨_, hc.2 _ (p.mem_iff.1 (List.mem_of_getElem? e0)), _, hc.2 _ (p.mem_iff.1 (List.mem_of_getElem? e1)), ?_, h1 _ (.inl e0), h1 _ (.inr e1)⟩
      intro e
      have := (ha.ok k hk).idx e0 e1 (by omega)
      rw [e] at this
      exact this rfl

/-- The model that is left: what is read of it. -/
structure Mod (B0 : Nat) (w0 w : World) (sp bm : Nat) (m : List Int) : Prop where
  c15 : w.cell? ⟨sp, 15, none⟩ = some (.slice (some ⟨bm, 0, none⟩) 8 8)
  row : Row w bm 51 (m.map (Value.int .i64))
  len : m.length = 8
  bel : Below B0 w0 w

def DecPost (B0 : Nat) (w0 : World) (C : List (List Nat)) (T : Nat → Prop) (Bot : Prop) (ds : List Int) (e : Ending) (w : World) : Prop :=
  (Bot ∧ Below B0 w0 w ∧ ∃ lvl, e = .returned (.tuple #[.pointer none, .pointer none, lvl, .bool true])) ∨
  ∃ (sp bm : Nat) (cv lvl : Value) (bad : Bool) (m : List Int), e = .returned (.tuple #[.pointer (some ⟨sp, 0, none⟩), cv, lvl, .bool bad]) ∧ Mod B0 w0 w sp bm m ∧
    ((bad = true ∧ Bot) ∨ (bad = false ∧ (∀ l, l < 16 → tru m l → T l) ∧ (∀ d ∈ ds, tru m (enc d)) ∧ ∀ c ∈ C, Clo m c))

theorem Weak.mod {Λ : Lay} {w : World} (h : Weak Λ w) : ∃ m, Mod Λ.B0 Λ.w0 w Λ.s Λ.bm m :=
  let ⟨b, _, _, m, r, hC, rm, hl⟩ := h
  ⟨m, r.cell hC.c15, rm, hl, b⟩
theorem Mem.mod {Λ : Lay} {w : World} {m : List Int} {tr : List Nat} {tv : Value} {L : Nat → List Nat} {EV : Nat → Value} {E : Nat → List (Nat × Nat)} (h : Mem Λ w m tr tv L EV E) : Mod Λ.B0 Λ.w0 w Λ.s Λ.bm m := ⟨h.c15, h.model, h.mlen, h.bel⟩

theorem st_cases (m : List Int) (l : Nat) : (tru m l ∧ st m l = 1) ∨ (fls m l ∧ st m l = 2) ∨ (lv m l = 0 ∧ st m l = 0) := by
  unfold tru fls st
  rcases Int.lt_trichotomy (lv m l) 0 with h | h | h
  · exact .inr (.inl ⟨h, by rw [if_neg (by omega), if_neg (by omega)]⟩)
  · exact .inr (.inr ⟨h, by rw [if_pos h]⟩)
  · exact .inl ⟨h, by rw [if_neg (by omega), if_pos h]⟩

/-- i decisions are taken. -/
def DecR (Λ : Lay) (T : Thy) (Bot : Prop) (m0 : List Int) (ds : List Int) (i : Nat) (w : World) : Prop :=
  ∃ m tr tv L EV E, Mem Λ w m tr tv L EV E ∧ Abs Λ.K T Bot m tr L E ∧ Pen Λ.K m L (qu []) ∧ Ext m0 m ∧ ∀ d ∈ ds.take i, tru m (enc d)

theorem take_ext {m m' : List Int} {ds : List Int} {i : Nat} {d : Int} (h : ∀ x ∈ ds.take i, tru m (enc x)) (hx : Ext m m') (hd : ds[i]? = some d) (ht : tru m' (enc d)) : ∀ x ∈ ds.take (i + 1), tru m' (enc x) := by
  intro x hm
  have hlt := (List.getElem?_eq_some_iff.1 hd).1
  rw [List.take_succ_eq_append_getElem hlt, (List.getElem?_eq_some_iff.1 hd).2] at hm
  rcases List.mem_append.1 hm with h1 | h1
  · exact hx _ (h x h1)
  · rw [List.mem_singleton.1 h1]; exact ht

set_option maxRecDepth 100000 in
set_option maxHeartbeats 1000000 in
theorem dec_mem {T : Nat → Prop} {Bot : Prop} {cs : List (List Int)} {ds : List Int} {w : World} {g cap gd dcap : Nat} (hbot : ∀ l, l < 16 → T l → T (neg l) → Bot) (hok : ∀ c ∈ cs, ClsOk c) (hlen : cs.length ≤ 20) (hT : ∀ c ∈ cs, Rules T Bot (c.map enc))
    (hcnf : CnfAt w w.heap.size g cs) (hds : IntsAt w w.heap.size gd ds) (hdl : ds.length ≤ 100) (hd : ∀ d ∈ ds, LitOk d ∧ T (enc d)) :
    Calls Try.prog 22 #[.slice (some ⟨g, 0, none⟩) cs.length cap, .int .i64 8, .slice (some ⟨gd, 0, none⟩) ds.length dcap] w (DecPost w.heap.size w (cs.map (·.map enc)) T Bot ds) := by
  have HDS := Lib.hid hds
  have HD := Lib.hid hd
  have HB := Lib.hid hbot
  go_enter Try.func22, Try.ntmps22
  go_wp2_with fail
  refine (nb_mem (T := T) (Bot := Bot) hbot hok hlen hT hcnf).mono ?_
  clear hds hd hbot hok hT hcnf
  rintro e w1 ⟨rfl, ⟨hb, us, uv, CS, cv, K, cb, lb, L, mv, m, hp⟩ | ⟨st, us, uv, CS, cv, K, cb, lb, L, bm, m, hst, hp, hab, hK, hl, hO⟩⟩
  · have f := hp.row.cell (i := 2) rfl
    have ff := hp.row.frozen 2
    have hbel := hp.bel
    have HB2 := Lib.hid hbel
    clear hp hbel
    have f2 : w1.cell? ⟨w.heap.size, 2, none⟩ = some (.int .u8 2) := f
    clear f ff
    go_wp2_with fail
    ((try simp only [Exit.inBlock, Exit.then]); refine bodyPost_ret (results_tmp4 rfl _ _ _) rfl ?_)
    exact .inl ⟨hb, HB2.out, _, rfl⟩
  · have f2 : w1.cell? ⟨w.heap.size, 2, none⟩ = some (.int .u8 st) := hp.row.cell (i := 2) rfl
    have hstb : (st == 2) = false := by rcases hst with rfl | rfl <;> rfl
    have HP := Lib.hid hp
    have HA := Lib.hid hab
    have HO := Lib.hid hO
    clear hp hab hO
    go_wp2_with fail
    refine (new_mem HP.out hst HA.out hK hl HO.out).mono ?_
    clear HP HO hst hK hl f2 hstb HA
    rintro e w2 ⟨Λ, tv, L, EV, E, rfl, hok, hw0, hB0, hm, ha, hpn, hcov⟩
    have hw0' : Λ.w0 = w := hw0
    have hB0' : Λ.B0 = w.heap.size := hB0
    clear hw0 hB0
    have HOK := Lib.hid hok
    have hR : DecR Λ ⟨T, L⟩ Bot m ds 0 w2 := ⟨m, us, tv, L, EV, E, hm, ha, hpn, .refl _, by simp⟩
    have HR := Lib.hid hR
    have HC := Lib.hid hcov
    have HW0 := Lib.hid hw0'
    have HB0 := Lib.hid hB0'
    clear hm ha hpn hR hcov hw0' hB0' hok
    go_wp2_with fail
    go_loopg [29, 12] (ds.length) (fun gk idx lvl wr => ∃ i v : Nat, idx = .int .i64 (i : Int) ∧ lvl = .int .i64 (v : Int) ∧ i + gk = ds.length ∧ 1 ≤ v ∧ v ≤ i + 1 ∧ DecR Λ ⟨T, L⟩ Bot m ds i wr)
    case atStart => exact ⟨0, 1, rfl, rfl, by omega, by omega, by omega, HR.out⟩
    case round =>
      obtain ⟨i, v, rfl, rfl, hgk, hv1, hv2, hr⟩ := hrel
      have HG := Lib.hid hgk
      clear hgk HR
      by_cases hlt : i < ds.length
      · obtain ⟨d, hd⟩ : ∃ d, ds[i]? = some d := ⟨_, List.getElem?_eq_getElem hlt⟩
        obtain ⟨m1, tr1, tv1, L1, EV1, E1, hm, ha, hp, hx, htk⟩ := hr
        have c1 : wr.cell? ⟨gd, i, none⟩ = some (.int .i64 d) := (HDS.out.below (by have := hm.bel; rw [HW0.out, HB0.out] at this; exact this)).row i d hd
        obtain ⟨hlo, hTd⟩ := HD.out d (List.mem_of_getElem? hd)
        have hwr : IntKind.i32.wrap d = d := IntWalk.i32_in _ (by have := hlo.2; omega)
        have hwv : IntKind.i64.wrap ((v : Int) + 1) = ((v + 1 : Nat) : Int) := by rw [IntWalk.i64_in _ (by omega)]; omega
        have hdlt := hlt
        have HM := Lib.hid hm
        have HA := Lib.hid ha
        have HP := Lib.hid hp
        have HX := Lib.hid hx
        have HTK := Lib.hid htk
        have HDI := Lib.hid hd
        have HLO := Lib.hid hlo
        clear hm ha hp hx htk hd hlo
        go_wp2_with fail
        refine (toLit_any d _ HLO.out.2.1 HLO.out.2.2 HLO.out.1).mono ?_
        rintro e' w' ⟨rfl, rfl⟩
        have he : (if d < 0 then (2 * (-d - 1) + 1).toNat else (2 * (d - 1)).toNat) = enc d := rfl
        rw [he]
        clear he
        have he16 := enc_lt HLO.out
        obtain ⟨l, hle⟩ : ∃ l, l = enc d := ⟨_, rfl⟩
        rw [← hle] at he16 hTd ⊢
        have HLE := Lib.hid hle
        clear hle
        unfold litV
        go_wp2_with fail
        refine (litStatus_mem HM.out he16).mono ?_
        rintro e' w' ⟨rfl, n, rfl⟩
        rcases st_cases m1 l with ⟨h1, h2⟩ | ⟨h1, h2⟩ | ⟨h1, h2⟩
        · rw [h2]
          have HH := Lib.hid h1
          clear h2 h1 hwv
          go_wp2_with fail
          go_roundg (gk - 1)
          case measure => have := HG.out; omega
          case rel => exact ⟨i + 1, v, by go_num, rfl, by have := HG.out; omega, hv1, by omega, m1, tr1, tv1, L1, EV1, E1, HM.out.drewN HOK.out _, HA.out, HP.out, HX.out, take_ext HTK.out (.refl _) HDI.out (by rw [← HLE.out]; exact HH.out)⟩
        · rw [h2]
          have HBt : Bot := HB.out l he16 hTd (HA.out.sound _ (neg_lt he16) (fls_iff.1 h1))
          clear h2 h1 hwv
          go_wp2_with fail
          ((try simp only [Exit.inBlock, Exit.then]); refine bodyPost_ret (results_tmp4 rfl _ _ _) rfl ?_)
          have hmod := (HM.out.drewN HOK.out n).mod
          rw [HW0.out, HB0.out] at hmod
          exact .inr ⟨_, _, _, _, true, _, rfl, hmod, .inl ⟨rfl, HBt⟩⟩
        · rw [h2]
          have H0 := Lib.hid h1
          have hm2 := HM.out.drewN HOK.out n
          have HM2 := Lib.hid hm2
          clear h2 h1 hm2 HM c1
          go_wp2_with fail
          refine (uni_mem HOK.out he16 (v := ((v + 1 : Nat) : Int)) (by omega) (by omega) HM2.out HA.out HP.out H0.out hTd).mono ?_
          rintro e' w9 (⟨p, rfl, hb, hwk⟩ | ⟨rfl, m9, tr9, tv9, L9, EV9, E9, hm, ha, hp, hx, htr⟩)
          · obtain ⟨m9, hmod⟩ := hwk.mod
            rw [HW0.out, HB0.out] at hmod
            have HMod := Lib.hid hmod
            clear hwk hmod hwv
            go_wp2_with fail
            ((try simp only [Exit.inBlock, Exit.then]); refine bodyPost_ret (results_tmp4 rfl _ _ _) rfl ?_)
            exact .inr ⟨_, _, _, _, true, _, rfl, HMod.out, .inl ⟨rfl, hb⟩⟩
          · have hx2 := (ext_setm (v := ((v + 1 : Nat) : Int)) HA.out.mlen he16 H0.out).trans hx
            have ht : tru m9 (enc d) := by
              rw [← HLE.out]
              refine hx _ ?_
              unfold tru
              rw [lv_setm_same HA.out.mlen he16]
              omega
            have hR : DecR Λ ⟨T, L⟩ Bot m ds (i + 1) w9 := ⟨m9, tr9, tv9, L9, EV9, E9, hm, ha, hp, HX.out.trans hx2, take_ext HTK.out hx2 HDI.out ht⟩
            have HR := Lib.hid hR
            clear hm ha hp hx htr hx2 ht hR
            go_wp2_with fail
            go_roundg (gk - 1)
            case measure => have := HG.out; omega
            case rel => exact ⟨i + 1, v + 1, by go_num, rfl, by have := HG.out; omega, by omega, by omega, HR.out⟩
      · have HRR := Lib.hid hr
        clear hr
        go_wp2_with fail
        ((try simp only [Exit.inBlock, Exit.then]); refine bodyPost_ret (results_tmp4 rfl _ _ _) rfl ?_)
        obtain ⟨m1, tr1, tv1, L1, EV1, E1, hm, ha, hp, hx, htk⟩ := HRR.out
        have hmod := hm.mod
        rw [HW0.out, HB0.out] at hmod
        refine .inr ⟨_, _, _, _, false, m1, rfl, hmod, .inr ⟨rfl, ha.sound, ?_, fun c hc => clo_of ha hp hx (HC.out c hc)⟩⟩
        rw [List.take_of_length_le (by omega)] at htk
        exact htk
end Go.Proofs.Ytiimddkopiknpaa
