/- copied and impl.Propagated: the contract imp_mem. -/
import Derived.Test.YtiimddkopiknpaaInp
namespace Go.Proofs.Ytiimddkopiknpaa
open Go.RowKit
attribute [local go_sem ↓] Go.wp_at_zero Go.wp_at_succ

theorem Try.info23 : (Try.prog.info? 23).map (fun i => (i.zero, i.size, i.bytes)) = some (some (.slice none 0 0), 1, 24) := by kernel_rfl

/-- i clauses are copied. -/
def CopR (B : Nat) (cs : List (List Int)) (i : Nat) (v : Value) (w : World) : Prop :=
  ∃ rvs : List Value, w.ownsRow B 23 1 v i rvs ∧ ∀ j c, j < i → cs[j]? = some c → ∃ b cp, rvs[j]? = some (.slice (some ⟨b, 0, none⟩) c.length cp) ∧ w.ownsRow B 3 1 (.slice (some ⟨b, 0, none⟩) c.length cp) c.length (c.map (Value.int .i64))

theorem own_ints {w : World} {B b cp : Nat} {c : List Int} (h : w.ownsRow B 3 1 (.slice (some ⟨b, 0, none⟩) c.length cp) c.length (c.map (Value.int .i64))) : IntsAt w w.heap.size b c ∧ B ≤ b := by
  rcases h.2 with ⟨hh, _⟩ | ⟨g, cap, cur, e, hB, hg, hcap, hmax, hsz, htake⟩
  · cases hh
  · injection e with e _ _
    injection e with e
    injection e with e
    subst e
    refine ⟨⟨(Array.getElem?_eq_some_iff.1 hg).1, fun j x hx => ?_⟩, hB⟩
    obtain ⟨g', cap', e', h2, _⟩ := own_cell h (i := j) (u := .int .i64 x) (by simp [hx])
    injection e' with e' _ _
    injection e' with e'
    injection e' with e'
    subst e'
    exact h2

theorem CopR.cnf {w : World} {B g cap : Nat} {cs : List (List Int)} (h : CopR B cs cs.length (.slice (some ⟨g, 0, none⟩) cs.length cap) w) : CnfAt w w.heap.size g cs := by
  obtain ⟨rvs, h1, h2⟩ := h
  refine ⟨(h1.lt g rfl).2, fun i c hc => ?_⟩
  obtain ⟨b, cp, e1, e2⟩ := h2 i c (List.getElem?_eq_some_iff.1 hc).1 hc
  obtain ⟨g', cap', e', c1, _⟩ := own_cell h1 e1
  injection e' with e' _ _
  injection e' with e'
  injection e' with e'
  subst e'
  exact ⟨b, cp, (own_ints e2).1.lt, c1, (own_ints e2).1.row⟩

set_option maxRecDepth 100000 in
set_option maxHeartbeats 1000000 in
theorem cop_mem {cs : List (List Int)} {v : Value} {w : World} (hok : ∀ c ∈ cs, ClsOk c) (hlen : cs.length ≤ 20) (hne : cs ≠ []) (hin : MatIn w v cs) (hl8 : ∀ c ∈ cs, c.length ≤ 8) :
    Calls Try.prog 18 #[v] w fun e w' => ∃ g cap, e = .returned (.slice (some ⟨g, 0, none⟩) cs.length cap) ∧ Below w.heap.size w w' ∧ CnfAt w' w'.heap.size g cs := by
  have hpos : 0 < cs.length := List.length_pos_iff.2 hne
  obtain ⟨b0, o0, C0, rfl, hcell⟩ := hin.full hne
  have HC := Lib.hid hcell
  have HOK := Lib.hid hok
  have HL8 := Lib.hid hl8
  clear hcell hin hne hok hl8
  go_enter Try.func18, Try.ntmps18
  go_wp2_with fail
  go_loopg [8, 3] (cs.length) (fun gk idx vv wr => ∃ (i : Nat) (v : Value), idx = .int .i64 (i : Int) ∧ v = vv ∧ i + gk = cs.length ∧ Below w.heap.size w wr ∧ CopR w.heap.size cs i v wr)
  case atStart => exact ⟨0, _, rfl, rfl, by omega, .refl _ _, [], ⟨rfl, .inl ⟨rfl, rfl⟩⟩, fun j c hj => by omega⟩
  case round =>
    obtain ⟨i, v, rfl, rfl, hgk, hbel, rvs, hown, hrows⟩ := hrel
    by_cases hlt : i < cs.length
    · obtain ⟨c, hc⟩ : ∃ c, cs[i]? = some c := ⟨_, List.getElem?_eq_getElem hlt⟩
      obtain ⟨rv, c1, hrv⟩ := HC.out i c hc
      have hcm := List.mem_of_getElem? hc
      have hcok := HOK.out c hcm
      obtain ⟨b1, o1, C1, rfl, hle1, hcell1⟩ := hrv.full hcok.ne
      have hb1 : b1 < w.heap.size := by
        obtain ⟨y, hy⟩ : ∃ y, c[0]? = some y := by
          cases c with
          | nil => exact absurd rfl hcok.ne
          | cons a l => exact ⟨a, rfl⟩
        exact cell_lt (hcell1 0 y hy)
      have c2 : wr.cell? ⟨b0, o0 + i, none⟩ = some (.slice (some ⟨b1, o1, none⟩) c.length C1) := by rw [hbel.cell (cell_lt c1)]; exact c1
      have hcl := HL8.out c hcm
      have hcp : 0 < c.length := List.length_pos_iff.2 hcok.ne
      have hbt : w.heap.size ≤ wr.heap.size := hbel.size
      obtain ⟨i0, hi, hz0, hz1, hz2⟩ := info_parts Try.info3
      obtain ⟨j0, ki, kz0, kz1, kz2⟩ := info_parts Try.info23
      have hnew : (wr.alloc (.cells #[] 3)).ownsRow w.heap.size 3 1 (.slice (some ⟨wr.heap.size, 0, none⟩) 0 0) 0 [] := World.ownsRow_lit wr #[] 0 hbt (by unfold maxLen; omega) rfl
      have hnews : ∀ j u, (c.map (Value.int .i64))[j]? = some u → (wr.alloc (.cells #[] 3)).cell? ((⟨b1, o1, none⟩ : Addr).add j) = some u := fun j u hu => by
        rw [List.getElem?_map] at hu
        obtain ⟨x, hx, rfl⟩ := Option.map_eq_some_iff.1 hu
        have h1 := hcell1 j x hx
        have h2 := (hbel.alloc hbel.size (.cells #[] 3)).cell (p := ⟨b1, o1 + j, none⟩) hb1
        rw [h1] at h2
        rw [addP]
        exact h2
      have HG := Lib.hid hgk
      have HB := Lib.hid hbel
      have HO := Lib.hid hown
      have HR := Lib.hid hrows
      have HCi := Lib.hid hc
      clear hgk hbel hown hrows hc c1 hrv hcok hcell1 hb1
      go_wp2_with (at_builtin; refine wpList_append_lies _ rfl _ _ 23 rfl w.heap.size 3 i0 (.int .i64 0) 1 8 Try.underlying23 hi hz0 hz1 hz2 rfl (by decide) _ _ _ rfl hnew ⟨b1, o1, none⟩ c.length C1 (c.map (Value.int .i64)) rfl (by simp) hnews ?c2 hcp ?c3 ?c4 (Nat.le_trans hbt (World.grownBy_alloc wr _ none).size) _ rfl ?_)
      case c2 =>
        intro u hu
        obtain ⟨x, _, rfl⟩ := List.mem_map.1 hu
        rfl
      case c3 => unfold maxLen; omega
      case c4 => omega
      intro g cap w4 hown4 hgrow4 hat4 _
      have hgr : wr.grownBy w4 none := grownBy_none_of (b := wr.heap.size) (grownBy_trans (World.grownBy_alloc wr _ _) hgrow4) (Nat.le_refl _)
      have hB4 := HB.out.grown hgr hbt (fun _ h => by cases h)
      have hv4 : w4.ownsRow w.heap.size 23 1 v i rvs := HO.out.kept hgr (by cases v.ownBlock <;> simp)
      have hr4 : ∀ j c, j < i → cs[j]? = some c → ∃ b cp, rvs[j]? = some (.slice (some ⟨b, 0, none⟩) c.length cp) ∧ w4.ownsRow w.heap.size 3 1 (.slice (some ⟨b, 0, none⟩) c.length cp) c.length (c.map (Value.int .i64)) := fun j c hj hc =>
        let ⟨b, cp, e1, e2⟩ := HR.out j c hj hc
        ⟨b, cp, e1, e2.kept hgr (.inr (by simp [Value.ownBlock]))⟩
      (try simp only [Nat.zero_add, List.nil_append] at hown4)
      have hb4 : w.heap.size ≤ w4.heap.size := Nat.le_trans hbt hgr.size
      have HN4 := Lib.hid hown4
      have HB4 := Lib.hid hB4
      have HR4 := Lib.hid hr4
      have HV4 := Lib.hid hv4
      clear hown4 hgrow4 hat4 hgr hB4 hr4 hnew hnews HB HO HR hi hz0 hz1 hz2 c2
      (try rw [Nat.zero_add])
      go_wp2_with (at_builtin; refine wpList_append_lies _ rfl _ _ 22 rfl w.heap.size 23 j0 (.slice none 0 0) 1 24 Try.underlying22 ki kz0 kz1 kz2 rfl (by decide) _ _ _ rfl (hv4.alloc _) ⟨w4.heap.size, 0, none⟩ 1 1 [.slice (some ⟨g, 0, none⟩) c.length cap] rfl rfl ?c1 ?c2 (by decide) ?c3 ?c4 ?c5 _ rfl ?_)
      case c1 =>
        intro j u hj
        match j, hj with
        | 0, hj => simp at hj; subst hj; simp [Addr.add]
      case c2 => intro u hu; simp at hu; subst hu; rfl
      case c3 => unfold maxLen; omega
      case c4 => omega
      case c5 => simp; omega
      intro g5 cap5 w5 hown5 hgrow5 _ _
      have hc5 := Chg.ofOwn (hv4.alloc _) hgrow5
      have hB5 : Below w.heap.size w w5 := (HB4.out.grown (World.grownBy_alloc w4 _ none) hb4 (fun _ h => by cases h)).grown hgrow5 (Nat.le_trans hb4 (World.grownBy_alloc w4 _ none).size) (own_le hv4 (Nat.le_refl _))
      have hfin : CopR w.heap.size cs (i + 1) (.slice (some ⟨g5, 0, none⟩) (i + 1) cap5) w5 := by
        refine ⟨_, hown5, fun j c' hj hc' => ?_⟩
        by_cases e : j < i
        · obtain ⟨b, cp, e1, e2⟩ := HR4.out j c' e hc'
          refine ⟨b, cp, ?_, hc5.own (e2.alloc _) (by decide)⟩
          rw [List.getElem?_append_left (List.getElem?_eq_some_iff.1 e1).1]
          exact e1
        · have hji : j = i := by omega
          subst hji
          rw [HCi.out] at hc'
          injection hc' with hc'
          subst hc'
          have hl : rvs.length = j := by have := hv4.1; omega
          refine ⟨g, cap, ?_, hc5.own (HN4.out.alloc _) (by decide)⟩
          rw [List.getElem?_append_right (by omega), hl]
          simp
      have HF := Lib.hid hfin
      have HB5 := Lib.hid hB5
      clear hfin hB5 hc5 hown5 hgrow5 hv4 HV4 HN4 HR4 HB4 ki kz0 kz1 kz2
      go_wp2_with fail
      go_roundg (gk - 1)
      case measure => have := HG.out; omega
      case rel => exact ⟨i + 1, _, by go_num, rfl, by have := HG.out; omega, HB5.out, HF.out⟩
    · have hi8 : i = cs.length := by omega
      subst hi8
      obtain ⟨g, cap, hv⟩ : ∃ g cap, v = .slice (some ⟨g, 0, none⟩) cs.length cap := by
        rcases hown.2 with ⟨_, h⟩ | ⟨g, cap, cur, e, _⟩
        · omega
        · exact ⟨g, cap, e⟩
      subst hv
      have hR : CopR w.heap.size cs cs.length (.slice (some ⟨g, 0, none⟩) cs.length cap) wr := ⟨rvs, hown, hrows⟩
      have HR := Lib.hid hR
      have HB := Lib.hid hbel
      clear hR hbel hown hrows hgk
      go_wp2_with fail
      go_ret
      exact ⟨g, cap, rfl, HB.out, HR.out.cnf⟩

theorem CnfAt.mono {w : World} {B B' g : Nat} {cs : List (List Int)} (h : CnfAt w B g cs) (hB : B ≤ B') : CnfAt w B' g cs :=
  ⟨Nat.lt_of_lt_of_le h.lt hB, fun i c hc => let ⟨b, cp, h1, h2⟩ := h.row i c hc; ⟨b, cp, Nat.lt_of_lt_of_le h1 hB, h2⟩⟩
theorem own_mono {w : World} {B B' : Nat} {e : TypeId} {size n : Nat} {v : Value} {xs : List Value} (h : w.ownsRow B e size v n xs) (hB : B' ≤ B) : w.ownsRow B' e size v n xs :=
  ⟨h.1, h.2.imp id fun ⟨g, cap, cur, e1, h1, h2⟩ => ⟨g, cap, cur, e1, Nat.le_trans hB h1, h2⟩⟩

theorem ZPost.back {B0 B1 : Nat} {w0 w1 w : World} {C : List (List Nat)} {T : Nat → Prop} {Bot : Prop} {ds : List Int} {e : Ending} (h : ZPost B1 w1 C T Bot ds e w) (hb : Below B0 w0 w1) (hB : B0 ≤ B1) : ZPost B0 w0 C T Bot ds e w :=
  ⟨hb.trans (h.1.mono hB), h.2.imp id fun ⟨v, m, e1, h1, h2⟩ => ⟨v, m, e1, own_mono h1 hB, h2⟩⟩

set_option maxRecDepth 100000 in
set_option maxHeartbeats 1000000 in
theorem imp_mem {T : Nat → Prop} {Bot : Prop} {cs : List (List Int)} {ds : List Int} {v dv : Value} {w : World} (hbot : ∀ l, l < 16 → T l → T (neg l) → Bot) (hok : ∀ c ∈ cs, ClsOk c) (hlen : cs.length ≤ 20) (hne : cs ≠ []) (hl8 : ∀ c ∈ cs, c.length ≤ 8)
    (hT : ∀ c ∈ cs, Rules T Bot (c.map enc)) (hin : MatIn w v cs) (hds : RowIn w dv ds) (hdl : ds.length ≤ 8) (hd : ∀ d ∈ ds, LitOk d ∧ T (enc d)) :
    Calls Try.prog 10 #[v, .int .i64 8, dv] w (ZPost w.heap.size w (cs.map (·.map enc)) T Bot ds) := by
  have HD := Lib.hid hds
  have HZ : ∀ (w2 : World) (g cap gd dcap : Nat), Below w.heap.size w w2 → CnfAt w2 w2.heap.size g cs → IntsAt w2 w2.heap.size gd ds →
      Calls Try.prog 17 #[.slice (some ⟨g, 0, none⟩) cs.length cap, .int .i64 8, .slice (some ⟨gd, 0, none⟩) ds.length dcap] w2 (ZPost w.heap.size w (cs.map (·.map enc)) T Bot ds) := fun _ _ _ _ _ hb h1 h2 =>
    (zzp_mem hbot hok hlen hT h1 h2 (by omega) hd).mono fun e w' h => h.back hb hb.size
  go_enter Try.func10, Try.ntmps10
  go_wp2_with fail
  refine (cop_mem hok hlen hne hin hl8).mono ?_
  rintro e w1 ⟨g, cap, rfl, hb1, hc1⟩
  clear hds hin hok hT hd hl8
  obtain ⟨i0, hi, hz0, hz1, hz2⟩ := info_parts Try.info3
  have hbt : w.heap.size ≤ w1.heap.size := hb1.size
  by_cases hd0 : ds = []
  · subst hd0
    obtain ⟨A, C, rfl, _⟩ := HD.out
    have hb2 := hb1.alloc hb1.size (.cells #[] 3)
    have hgr : w1.grownBy (w1.alloc (.cells #[] 3)) none := World.grownBy_alloc w1 _ none
    have hc2 : CnfAt (w1.alloc (.cells #[] 3)) (w1.alloc (.cells #[] 3)).heap.size g cs := (hc1.below ((Below.refl _ _).grown hgr (Nat.le_refl _) (fun _ h => by cases h))).mono hgr.size
    have hi2 : IntsAt (w1.alloc (.cells #[] 3)) (w1.alloc (.cells #[] 3)).heap.size w1.heap.size [] := ⟨(Row.new w1 3 []).lt, fun j x hx => by simp at hx⟩
    have hz := HZ _ _ cap _ 0 hb2 hc2 hi2
    have H := Lib.hid hz
    clear hz hi2 hc2 hgr hb2 HZ hc1 hb1
    go_wp2_with (at_builtin; refine wpList_append_zero rfl _ _ 23 rfl 3 i0 Try.underlying23 hi w1.heap.size A C rfl rfl ?_)
    clear hi hz0 hz1 hz2
    go_wp2_with fail
    refine H.out.mono ?_
    clear H
    rintro e w2 ⟨h0, h⟩
    have H0 := Lib.hid h0
    clear h0
    rcases h with ⟨hb, v2, rfl⟩ | ⟨v2, m, rfl, h1, h2, h3⟩
    · go_wp2_with fail
      go_ret2
      exact ⟨H0.out, .inl ⟨hb, _, rfl⟩⟩
    · have H1 := Lib.hid h1
      have H3 := Lib.hid h3
      clear h1 h3
      go_wp2_with fail
      go_ret2
      exact ⟨H0.out, .inr ⟨_, m, rfl, H1.out, h2, H3.out⟩⟩
  · obtain ⟨b1, o1, C1, rfl, hle1, hcell1⟩ := HD.out.full hd0
    have hb1' : b1 < w.heap.size := by
      obtain ⟨y, hy⟩ : ∃ y, ds[0]? = some y := by
        cases ds with
        | nil => exact absurd rfl hd0
        | cons a l => exact ⟨a, rfl⟩
      exact cell_lt (hcell1 0 y hy)
    have hcp : 0 < ds.length := List.length_pos_iff.2 hd0
    have hnew : (w1.alloc (.cells #[] 3)).ownsRow w1.heap.size 3 1 (.slice (some ⟨w1.heap.size, 0, none⟩) 0 0) 0 [] := World.ownsRow_lit w1 #[] 0 (Nat.le_refl _) (by unfold maxLen; omega) rfl
    have hnews : ∀ j u, (ds.map (Value.int .i64))[j]? = some u → (w1.alloc (.cells #[] 3)).cell? ((⟨b1, o1, none⟩ : Addr).add j) = some u := fun j u hu => by
      rw [List.getElem?_map] at hu
      obtain ⟨x, hx, rfl⟩ := Option.map_eq_some_iff.1 hu
      have h1 := hcell1 j x hx
      have h2 := (hb1.alloc hb1.size (.cells #[] 3)).cell (p := ⟨b1, o1 + j, none⟩) hb1'
      rw [h1] at h2
      rw [addP]
      exact h2
    have HB1 := Lib.hid hb1
    have HC1 := Lib.hid hc1
    have HZZ := Lib.hid HZ
    clear hb1 hc1 HZ hcell1
    go_wp2_with (at_builtin; refine wpList_append_lies _ rfl _ _ 23 rfl w1.heap.size 3 i0 (.int .i64 0) 1 8 Try.underlying23 hi hz0 hz1 hz2 rfl (by decide) _ _ _ rfl hnew ⟨b1, o1, none⟩ ds.length C1 (ds.map (Value.int .i64)) rfl (by simp) hnews ?c2 hcp ?c3 ?c4 (World.grownBy_alloc w1 _ none).size _ rfl ?_)
    case c2 =>
      intro u hu
      obtain ⟨x, _, rfl⟩ := List.mem_map.1 hu
      rfl
    case c3 => unfold maxLen; omega
    case c4 => omega
    intro g4 cap4 w4 hown4 hgrow4 hat4 _
    have hgr : w1.grownBy w4 none := grownBy_none_of (b := w1.heap.size) (grownBy_trans (World.grownBy_alloc w1 _ _) hgrow4) (Nat.le_refl _)
    have hb4 := HB1.out.grown hgr hbt (fun _ h => by cases h)
    have hc4 : CnfAt w4 w4.heap.size g cs := (HC1.out.below ((Below.refl _ _).grown hgr (Nat.le_refl _) (fun _ h => by cases h))).mono hgr.size
    (try simp only [Nat.zero_add, List.nil_append] at hown4)
    have hz := HZZ.out _ _ cap _ cap4 hb4 hc4 (own_ints hown4).1
    have H := Lib.hid hz
    clear hz hb4 hc4 hgr hown4 hgrow4 hat4 hnew hnews HZZ HB1 HC1 hi hz0 hz1 hz2
    (try rw [Nat.zero_add])
    go_wp2_with fail
    refine H.out.mono ?_
    clear H
    rintro e w2 ⟨h0, h⟩
    have H0 := Lib.hid h0
    clear h0
    rcases h with ⟨hb, v2, rfl⟩ | ⟨v2, m, rfl, h1, h2, h3⟩
    · go_wp2_with fail
      go_ret2
      exact ⟨H0.out, .inl ⟨hb, _, rfl⟩⟩
    · have H1 := Lib.hid h1
      have H3 := Lib.hid h3
      clear h1 h3
      go_wp2_with fail
      go_ret2
      exact ⟨H0.out, .inr ⟨_, m, rfl, H1.out, h2, H3.out⟩⟩
end Go.Proofs.Ytiimddkopiknpaa
