/- The second law's side: Models. -/
import Derived.Test.YtiimddkopiknpaaSouC
namespace Go.Proofs.Ytiimddkopiknpaa
open Go.RowKit
attribute [local go_sem ↓] Go.wp_at_zero Go.wp_at_succ

theorem Try.info39 : (Try.prog.info? 39).map (fun i => (i.zero, i.size, i.bytes)) = some (some (.slice none 0 0), 1, 24) := by kernel_rfl

/-- Values under which all of ls hold. -/
def ModR (B : Nat) (ls : List (List Int)) (vs : List Value) (w : World) : Prop :=
  ∀ x ∈ vs, ∃ bs : List Bool, w.ownsRow B 4 1 x 8 (bs.map Value.bool) ∧ ls.all (anyT bs) = true

set_option maxRecDepth 100000 in
set_option maxHeartbeats 1000000 in
theorem mod_any {w : World} {B : Nat} {v : Value} {ls : List (List Int)} (hl : ls.length ≤ 100) (hne : ls ≠ []) (hx : ∀ c ∈ ls, ClsOk c) (h : ConR B ls v w) :
    Calls Try.prog 14 #[v, .int .i64 8] w fun e w' => (∃ (u : Value) (vs : List Value), e = .returned u ∧ w'.ownsRow w.heap.size 39 1 u vs.length vs ∧ ModR w.heap.size ls vs w' ∧ vs.length ≤ 256) ∧ Below w.heap.size w w' := by
  have hown : (w.alloc (.cells #[] 39)).ownsRow w.heap.size 39 1 (.slice (some ⟨w.heap.size, 0, none⟩) 0 0) 0 [] := World.ownsRow_lit w #[] 0 (Nat.le_refl _) (by unfold maxLen; omega) rfl
  have hb1 : Below w.heap.size w (w.alloc (.cells #[] 39)) := (Below.refl _ _).alloc (Nat.le_refl _) _
  have HO := Lib.hid hown
  have HB := Lib.hid hb1
  have HX := Lib.hid hx
  have HC := Lib.hid h
  clear hown hb1 hx h
  go_enter Try.func14, Try.ntmps14
  go_wp2_with fail
  go_loopg [11, 5] 256 (fun gk idx vv wr => ∃ (i : Nat) (v : Value) (vs : List Value), idx = .int .i64 (i : Int) ∧ v = vv ∧ i + gk = 256 ∧ Below w.heap.size w wr ∧ vs.length ≤ i ∧ wr.ownsRow w.heap.size 39 1 v vs.length vs ∧ ModR w.heap.size ls vs wr)
  case atStart => exact ⟨0, _, [], rfl, rfl, rfl, HB.out, Nat.le_refl _, HO.out, fun x hx => by cases hx⟩
  case round =>
    obtain ⟨i, v, vs, rfl, rfl, hgk, hb, hvl, hown, hmod⟩ := hrel
    clear HO HB
    have HG := Lib.hid hgk
    have HB := Lib.hid hb
    have HOwn := Lib.hid hown
    have HM := Lib.hid hmod
    clear hgk hb hown hmod
    by_cases hlt : i < 256
    · go_wp2_with fail
      refine (vals_any (n := i)).mono ?_
      rintro e w2 ⟨⟨bv, bs, rfl, hbo⟩, hb2⟩
      have hbls := own_bls hbo
      have hB2 := HB.out.trans (hb2.mono HB.out.size)
      have hcall := allHold_any hl hne HX.out (HC.out.below hB2) hbls
      have hbo2 := own_mono hbo HB.out.size
      have hOwn2 := own_below HOwn.out hb2
      have hM2 : ModR w.heap.size ls vs w2 := fun x hx => let ⟨bs, h1, h2⟩ := HM.out x hx; ⟨bs, own_below h1 hb2, h2⟩
      obtain ⟨_, g, cap, hbv, _⟩ := hbls
      subst hbv
      have HCall := Lib.hid hcall
      have HB2 := Lib.hid hB2
      have HBo := Lib.hid hbo2
      have HO2 := Lib.hid hOwn2
      have HM2 := Lib.hid hM2
      clear hcall hB2 hbo hbo2 hb2 hOwn2 hM2 HB HOwn HM
      go_wp2_with fail
      refine HCall.out.mono ?_
      clear HCall
      rintro e w3 ⟨rfl, hb3⟩
      have hB3 := HB2.out.trans (hb3.mono HB2.out.size)
      have hbt : w.heap.size ≤ w3.heap.size := hB3.size
      have hbo3 := own_below HBo.out hb3
      have hOwn3 := own_below HO2.out hb3
      have hM3 : ModR w.heap.size ls vs w3 := fun x hx => let ⟨bs, h1, h2⟩ := HM2.out x hx; ⟨bs, own_below h1 hb3, h2⟩
      have HB3 := Lib.hid hB3
      have HBo3 := Lib.hid hbo3
      have HO3 := Lib.hid hOwn3
      have HM3 := Lib.hid hM3
      clear hb3 hB3 hbo3 hM3 HB2 HBo HO2 HM2
      cases hall : ls.all (anyT bs)
      · clear hall hOwn3
        go_wp2_with fail
        go_roundg (gk - 1)
        case measure => have := HG.out; omega
        case rel => exact ⟨i + 1, _, vs, by go_num, rfl, by have := HG.out; omega, HB3.out, by omega, HO3.out, HM3.out⟩
      · have HAll := Lib.hid hall
        clear hall
        obtain ⟨i0, hi, hz0, hz1, hz2⟩ := info_parts Try.info39
        go_wp2_with (at_builtin; refine wpList_append_lies _ rfl _ _ 37 rfl w.heap.size 39 i0 (.slice none 0 0) 1 24 Try.underlying37 hi hz0 hz1 hz2 rfl (by decide) _ _ _ rfl (hOwn3.alloc _) ⟨w3.heap.size, 0, none⟩ 1 1 [.slice (some ⟨g, 0, none⟩) 8 cap] rfl rfl ?c1 ?c2 (by decide) ?c3 ?c4 ?c5 _ rfl ?_)
        case c1 =>
          intro j u hj
          match j, hj with
          | 0, hj => simp at hj; subst hj; simp [Addr.add]
        case c2 => intro u hu; simp at hu; subst hu; rfl
        case c3 => unfold maxLen; omega
        case c4 => omega
        case c5 => simp; omega
        intro g' cap' w4 hown' hgrow _ _
        have hc := Chg.ofOwn (hOwn3.alloc _) hgrow
        have hB4 : Below w.heap.size w w4 := (HB3.out.grown (World.grownBy_alloc w3 _ none) hbt (fun _ h => by cases h)).grown hgrow (Nat.le_trans hbt (World.grownBy_alloc w3 _ none).size) (own_le hOwn3 (Nat.le_refl _))
        have hM4 : ModR w.heap.size ls (vs ++ [.slice (some ⟨g, 0, none⟩) 8 cap]) w4 := fun x hx => by
          rcases List.mem_append.1 hx with hx | hx
          · obtain ⟨bs', h1, h2⟩ := HM3.out x hx
            exact ⟨bs', hc.own (h1.alloc _) (by decide), h2⟩
          · rw [List.mem_singleton.1 hx]
            exact ⟨bs, hc.own (HBo3.out.alloc _) (by decide), HAll.out⟩
        have HN := Lib.hid hown'
        have HN2 := Lib.hid hB4
        have HN3 := Lib.hid hM4
        clear hown' hgrow hB4 hM4 hc hOwn3 hi hz0 hz1 hz2
        go_wp2_with fail
        go_roundg (gk - 1)
        case measure => have := HG.out; omega
        case rel => exact ⟨i + 1, _, _, by go_num, rfl, by have := HG.out; omega, HN2.out, by simp; omega, by rw [List.length_append]; exact HN.out, HN3.out⟩
    · go_wp2_with fail
      go_ret
      exact ⟨⟨_, vs, rfl, HOwn.out, HM.out, by have := HG.out; omega⟩, HB.out⟩
end Go.Proofs.Ytiimddkopiknpaa
