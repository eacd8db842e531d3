/- unifyLiteral: a literal is bound, and all that it forces: the contract uni_mem. -/
import Derived.Test.YtiimddkopiknpaaPrp
namespace Go.Proofs.Ytiimddkopiknpaa
open Go.RowKit
attribute [local go_sem ↓] Go.wp_at_zero Go.wp_at_succ
section
variable {Λ : Lay} {w w' : World} {m m' : List Int} {tr tr' : List Nat} {tv tv' : Value} {L L' : Nat → List Nat} {EV EV' : Nat → Value} {E E' : Nat → List (Nat × Nat)}

set_option maxRecDepth 100000 in
set_option maxHeartbeats 1000000 in
theorem uni_mem (ok : LayOk Λ) {T : Thy} {Bot : Prop} {l : Nat} {v : Int} (hl : l < 16) (hv1 : 1 ≤ v) (hv2 : v ≤ 1000) (hm : Mem Λ w m tr tv L EV E) (ha : Abs Λ.K T Bot m tr L E)
    (hp : Pen Λ.K m L (qu [])) (h0 : lv m l = 0) (hT : T l) :
    Calls Try.prog 34 #[.pointer (some ⟨Λ.s, 0, none⟩), litV l, .int .i64 v] w (PrpPost Λ T Bot (setm m l v) (tr ++ [l])) := by
  have hb := ha.bnd
  have f1 := hm.c15
  have f2 := hm.mc (v := l / 2) (by omega)
  have f3 := hm.mf (l / 2)
  have v0 : (0 : Int) ≤ (l : Int) / 2 := by omega
  have v1 : (l : Int) / 2 < 8 := by omega
  have v2 : ((l : Int) / 2).toNat = l / 2 := by omega
  have q1 : ¬ Λ.bm = Λ.s := Ne.symm hm.s_bm
  have hm1 := (hm.setModel ok (l / 2) (sgn l v)).drew ok
  have hF : ∀ w' tv', Mem Λ w' (setm m l v) (tr ++ [l]) tv' L EV E → Fin Λ T Bot tr.length (setm m l v) (tr ++ [l]) w' := fun w' tv' h =>
    ⟨_, _, tv', L, EV, E, h, ha.bind hl h0 (by omega) hT, hp.bind ha.mlen hl h0 (by omega) (fun k x hx => by simp [qu] at hx) (fun k => by simp [qu, neg_neg]), .refl _, [], by simp⟩
  have HF := Lib.hid hF
  have HM1 := Lib.hid hm1
  clear hF hm1 hm ha hp h0 hT
  generalize m.getD (l / 2) 0 = y at f2
  go_enter Try.func34, Try.ntmps34
  go_wp2_with fail
  go_region_held3 (fun w' => w'.cell? ⟨Λ.s, 15, none⟩ = some (.slice (some ⟨Λ.bm, 0, none⟩) 8 8)) (go_keep) (first | (go_at_call 44; refine (var_any _ _ hl).mono ?_; rintro e w' ⟨rfl, rfl⟩) | (go_at_call 45; refine (signed_any _ _ _ hl (by omega) hv2).mono ?_; rintro e w' ⟨rfl, rfl⟩))
  obtain ⟨w3, e3⟩ : ∃ w3, w3 = (w.setCell ⟨Λ.bm, l / 2, none⟩ (.int .i64 (sgn l v))).drew := ⟨_, rfl⟩
  rw [← e3] at HM1 ⊢
  clear e3 f1 f2 f3 q1 v0 v1 v2
  have f1 := HM1.out.c14
  have f2 := HM1.out.sf 14
  obtain ⟨i0, hi, hz0, hz1, hz2⟩ := info_parts Try.info90
  have ho := HM1.out.trail
  have hbt := HM1.out.bt
  unfold litV
  go_wp2_with (at_builtin; refine wpList_append_lies _ rfl _ _ 61 rfl Λ.Bt 90 i0 (.int .i32 0) 1 4 Try.underlying61 hi hz0 hz1 hz2 rfl (by decide) _ _ _ rfl (ho.alloc _) ⟨w3.heap.size, 0, none⟩ 1 1 [.int .i32 l] rfl rfl ?c1 ?c2 (by decide) ?c3 ?c4 ?c5 _ rfl ?_)
  case c1 =>
    intro j u hj
    match j, hj with
    | 0, hj => simp at hj; subst hj; simp [Addr.add]
  case c2 => intro u hu; simp at hu; subst hu; rfl
  case c3 => unfold maxLen; omega
  case c4 => omega
  case c5 => simp; omega
  intro g cap w4 hown' hgrow _ _
  have h4 := HM1.out.alloc ok (.cells #[.int .i32 (l : Int)] 90)
  have hc := Chg.ofOwn h4.trail hgrow
  obtain ⟨C, r, hC⟩ := h4.solver
  have f3 := (hc.row r (by decide)).cell hC.c14
  have f4 := (hc.row r (by decide)).frozen 14
  have h5 := trail_step ok h4 (l := l) hgrow hown'
  have H5 := Lib.hid h5
  clear h5 hC hown' hgrow hc h4 ho hbt r f1 f2
  have hwr : IntKind.i64.wrap ((tr.length : Int) + 1 - 1) = (tr.length : Int) := by rw [IntWalk.i64_in _ (by omega)]; omega
  go_wp2_with fail
  refine (prp_mem ok hv1 hv2 (by omega) (HF.out _ _ H5.out)).mono ?_
  rintro e w5 (⟨p, rfl, h⟩ | ⟨rfl, h⟩)
  · have HH := Lib.hid h
    clear h H5 HF HM1 f3 f4
    go_wp2_with fail
    go_ret
    exact .inl ⟨p, rfl, HH.out⟩
  · have HH := Lib.hid h
    clear h H5 HF HM1 f3 f4
    go_wp2_with fail
    go_ret
    exact .inr ⟨rfl, HH.out⟩
end
end Go.Proofs.Ytiimddkopiknpaa
