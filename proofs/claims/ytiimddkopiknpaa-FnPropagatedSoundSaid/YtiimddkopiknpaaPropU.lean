/- propagateUnit, and litStatus over the solver's memory. -/
import Derived.Test.YtiimddkopiknpaaMem
import Derived.Deep.RegionHeld3
import Derived.Deep.DrawnRows
namespace Go.Proofs.Ytiimddkopiknpaa
open Go.RowKit
attribute [local go_sem ↓] Go.wp_at_zero Go.wp_at_succ

/-- The value of a literal: above 0 where it is true, below 0 where it is false, 0 where it is open. -/
def lv (m : List Int) (l : Nat) : Int := sgn l (m.getD (l / 2) 0)
/-- A literal is made true at a level. -/
def setm (m : List Int) (l : Nat) (v : Int) : List Int := m.set (l / 2) (sgn l v)

theorem Try.info90 : (Try.prog.info? 90).map (fun i => (i.zero, i.size, i.bytes)) = some (some (.int .i32 0), 1, 4) := by kernel_rfl

def st (m : List Int) (l : Nat) : Int := if lv m l = 0 then 0 else if lv m l > 0 then 1 else 2
theorem sgn_zero (l : Nat) (x : Int) : sgn l x = 0 ↔ x = 0 := by unfold sgn; split <;> omega
theorem stx_eq (m : List Int) (l : Nat) : stx l (m.getD (l / 2) 0) = st m l := by
  unfold stx st lv
  simp only [sgn_zero]

section
variable {Λ : Lay} {w w' : World} {m m' : List Int} {tr tr' : List Nat} {tv tv' : Value} {L L' : Nat → List Nat} {EV EV' : Nat → Value} {E E' : Nat → List (Nat × Nat)}

theorem litStatus_mem (h : Mem Λ w m tr tv L EV E) {l : Nat} (hl : l < 16) :
    Calls Try.prog 33 #[.pointer (some ⟨Λ.s, 0, none⟩), litV l] w fun e w' => e = .returned (.int .u8 (st m l)) ∧ ∃ n, w' = w.drewN n := by
  refine (litStatus_any Λ.s Λ.bm l (m.getD (l / 2) 0) w hl h.c15 (h.mc (by omega))).mono fun e w' hh => ?_
  rw [← stx_eq]; exact hh

/-- One more literal on the trail: behind the append of the trail's slice. -/
theorem trail_step (ok : LayOk Λ) (h : Mem Λ w m tr tv L EV E) {l : Nat} {w1 : World} {v' : Value} (hg : w.grownBy w1 tv.ownBlock) (ho : w1.ownsRow Λ.Bt 90 1 v' (tr.length + 1) (tr.map litV ++ [litV l])) :
    Mem Λ (w1.setCell ⟨Λ.s, 14, none⟩ v') m (tr ++ [l]) v' L EV E :=
  h.chTrail ok hg (by simpa using ho)

set_option maxHeartbeats 400000 in
theorem propUnit_mem (ok : LayOk Λ) (h : Mem Λ w m tr tv L EV E) {k l : Nat} {v : Int} (hk : k < Λ.K) (hl : l < 16) (hv : 0 ≤ v) (hv2 : v ≤ 1000) (hn : tr.length ≤ 1000) :
    Calls Try.prog 70 #[.pointer (some ⟨Λ.s, 0, none⟩), .pointer (some ⟨Λ.cb k, 0, none⟩), .int .i64 v, litV l] w fun e w' =>
      e = .returned (.tuple #[]) ∧ ∃ tv', Mem Λ w' (setm m l v) (tr ++ [l]) tv' L EV E := by
  have hl0 : (0 : Int) ≤ (l : Int) / 2 := by omega
  have hl1 : (l : Int) / 2 < 8 := by omega
  have hl2 : l / 2 < 8 := by omega
  have hl3 : ((l : Int) / 2).toNat = l / 2 := by omega
  have f1 := h.c20
  obtain ⟨rx, f2⟩ := h.rc hl2
  have f3 := h.rf (l / 2)
  go_enter Try.func70, Try.ntmps70
  go_wp2_with fail
  refine (var_any _ _ hl).mono ?_
  rintro e w' ⟨rfl, rfl⟩
  go_wp2_with fail
  have h1 := h.setReason ok (l / 2) (.pointer (some ⟨Λ.cb k, 0, none⟩))
  obtain ⟨x, a⟩ := h1.db k hk
  refine (lock_any _ _ _ _ _ a).mono ?_
  rintro e w' ⟨rfl, hw⟩
  have h2 := h1.lock ok hk (bits .or .u32 x 1073741824)
  rw [hw] at h2
  clear hw h1 f1 f2 f3 a rx
  have f1 := h2.c15
  obtain ⟨mx, f2⟩ : ∃ mx, w'.cell? ⟨Λ.bm, l / 2, none⟩ = some mx := ⟨_, h2.mc hl2⟩
  have f3 := h2.mf (l / 2)
  have d1 : ¬ Λ.bm = Λ.s := Ne.symm h2.s_bm
  go_wp2_with fail
  go_region_held3 (fun w' => w'.cell? ⟨Λ.s, 15, none⟩ = some (.slice (some ⟨Λ.bm, 0, none⟩) 8 8)) (go_keep) (first | (go_at_call 45; refine (signed_any _ _ _ hl hv hv2).mono ?_; rintro e w' ⟨rfl, rfl⟩))
  have h3 := (h2.setModel ok (l / 2) (sgn l v)).drew ok
  clear f1 f2 f3 h2
  obtain ⟨w3, e3⟩ : ∃ w3, w3 = (w'.setCell ⟨Λ.bm, l / 2, none⟩ (.int .i64 (sgn l v))).drew := ⟨_, rfl⟩
  rw [← e3] at h3 ⊢
  clear e3
  have f1 := h3.c14
  have f2 := h3.sf 14
  obtain ⟨i0, hi, hz0, hz1, hz2⟩ := info_parts Try.info90
  have H3 := Lib.hid h3
  have ho := h3.trail
  have hbt := h3.bt
  clear h3
  unfold litV
  go_wp2_with (at_builtin; refine wpList_append_lies _ rfl _ _ 61 rfl Λ.Bt 90 i0 (.int .i32 0) 1 4 Try.underlying61 hi hz0 hz1 hz2 rfl (by decide) _ _ _ rfl (ho.alloc _) ⟨w3.heap.size, 0, none⟩ 1 1 [.int .i32 l] rfl rfl ?c1 ?c2 (by decide) ?c3 ?c4 ?c5 _ rfl ?_)
  case c1 =>
    intro j u hj
    match j, hj with
    | 0, hj => simp at hj; subst hj; simp [Addr.add]
  case c2 => intro u hu; simp at hu; subst hu; rfl
  case c3 => unfold maxLen; omega
  case c4 => omega
  case c5 => simp; omega
  intro g cap w4 hown' hgrow _ _
  have h4 := H3.out.alloc ok (.cells #[.int .i32 (l : Int)] 90)
  have hc := Chg.ofOwn h4.trail hgrow
  obtain ⟨C, r, hC⟩ := h4.solver
  have f3 := (hc.row r (by decide)).cell hC.c14
  have f4 := (hc.row r (by decide)).frozen 14
  have h5 := trail_step ok h4 (l := l) hgrow hown'
  have H5 := Lib.hid h5
  clear h5 hC hown' hgrow hc h4 ho hbt r
  go_wp2
  go_end0
  exact ⟨rfl, _, H5.out⟩
end
end Go.Proofs.Ytiimddkopiknpaa
