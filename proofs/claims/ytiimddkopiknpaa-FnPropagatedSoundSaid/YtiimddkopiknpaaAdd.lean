/- addUnit, updateStatus: contracts. -/
import Derived.Test.YtiimddkopiknpaaPb
import Derived.Test.YtiimddkopiknpaaPbA
import Derived.Test.YtiimddkopiknpaaPlan
import Derived.Deep.LoopGhost
import Derived.Deep.DeepCutAuto
import Derived.Deep.CutBlock
namespace Go.Proofs.Ytiimddkopiknpaa
open Go.RowKit
attribute [local go_sem ↓] Go.wp_at_zero Go.wp_at_succ
section
variable {Φ : PL} {w w' : World} {st : Int} {us : List Nat} {uv : Value} {CS : List Nat} {cv : Value} {K : Nat} {cb lb : Nat → Nat} {L : Nat → List Nat} {mv : Value} {m : List Int}

theorem PMem.pc (h : PMem Φ w st us uv CS cv K cb lb L mv m) {i : Nat} {v : Value} (hv : (pRow cv st uv mv)[i]? = some v) : w.cell? ⟨Φ.p, i, none⟩ = some v := h.row.cell hv
theorem PMem.pf (h : PMem Φ w st us uv CS cv K cb lb L mv m) (i : Nat) : w.frozen? ⟨Φ.p, i, none⟩ = false := h.row.frozen i
theorem PMem.md (h : PMem Φ w st us uv CS cv K cb lb L mv m) {bm : Nat} (hmv : mv = .slice (some ⟨bm, 0, none⟩) 8 8) : Row w bm 51 (m.map (Value.int .i64)) ∧ m.length = 8 ∧ bm ≠ Φ.p := by
  rcases h.mod with ⟨e, _⟩ | ⟨bm', e, hb, r, hl⟩
  · rw [hmv] at e; cases e
  · rw [hmv] at e
    injection e with e _ _
    injection e with e
    injection e with e
    subst e
    exact ⟨r, hl, r.ne h.row (by decide)⟩

set_option maxRecDepth 100000 in
set_option maxHeartbeats 1000000 in
theorem addUnit_mem {bm l : Nat} (h : PMem Φ w st us uv CS cv K cb lb L mv m) (hmv : mv = .slice (some ⟨bm, 0, none⟩) 8 8) (hl : l < 16) (h0 : lv m l = 0) (hu : us.length ≤ 1000) :
    Calls Try.prog 60 #[.pointer (some ⟨Φ.p, 0, none⟩), litV l] w fun e w' => e = .returned (.tuple #[]) ∧ ∃ uv', PMem Φ w' st (us ++ [l]) uv' CS cv K cb lb L mv (setm m l 1) := by
  subst hmv
  obtain ⟨r, hml, hne⟩ := h.md rfl
  have hz : m.getD (l / 2) 0 = 0 := (sgn_zero l _).1 h0
  have f1 := h.pc (i := 4) rfl
  have f2 : w.cell? ⟨bm, l / 2, none⟩ = some (.int .i64 0) := r.cell (by
    have hlt : l / 2 < m.length := by omega
    simp only [List.getElem?_map, List.getElem?_eq_getElem hlt, Option.map_some]
    simp only [List.getD_eq_getElem?_getD, List.getElem?_eq_getElem hlt, Option.getD_some] at hz
    rw [hz])
  have f3 := r.frozen (l / 2)
  have v0 : (0 : Int) ≤ (l : Int) / 2 := by omega
  have v1 : (l : Int) / 2 < 8 := by omega
  have v2 : ((l : Int) / 2).toNat = l / 2 := by omega
  have H := Lib.hid h
  clear h r hz h0
  by_cases hp : l % 2 = 0
  · have hpb : decide (l % 2 = 0) = true := by simpa using hp
    have hs : setm m l 1 = m.set (l / 2) 1 := by unfold setm sgn; rw [if_pos hp]
    rw [hs]
    go_enter Try.func60, Try.ntmps60
    go_wp2_with fail
    refine (pos_any _ _ hl).mono ?_
    rintro e w' ⟨rfl, rfl⟩
    rw [hpb]
    go_wp2_with fail
    go_region_held3 (fun w' => w'.cell? ⟨Φ.p, 4, none⟩ = some (.slice (some ⟨bm, 0, none⟩) 8 8) ∧ w'.cell? ⟨bm, l / 2, none⟩ = some (.int .i64 0)) (go_keep) (first | (go_at_call 44; refine (var_any _ _ hl).mono ?_; rintro e w' ⟨rfl, rfl⟩))
    rename_i hHeld
    clear hHeld
    go_wp2_with fail
    go_region_held3 (fun w' => w'.cell? ⟨Φ.p, 4, none⟩ = some (.slice (some ⟨bm, 0, none⟩) 8 8)) (go_keep) (first | (go_at_call 44; refine (var_any _ _ hl).mono ?_; rintro e w' ⟨rfl, rfl⟩))
    rename_i hHeld
    clear hHeld
    have h1 := (H.out.drew.setM rfl (l / 2) 1).drew
    obtain ⟨w3, e3⟩ : ∃ w3, w3 = (w.drew.setCell ⟨bm, l / 2, none⟩ (.int .i64 1)).drew := ⟨_, rfl⟩
    rw [← e3] at h1
    have e4 : (w.setCell ⟨bm, l / 2, none⟩ (.int .i64 1)).drew.drew = w3 := e3.symm
    clear e3 f1 f2 f3
    rw [e4]
    clear e4
    have H1 := Lib.hid h1
    have f1 := h1.pc (i := 3) rfl
    have f2 := h1.pf 3
    obtain ⟨i0, hi, hz0, hz1, hz2⟩ := info_parts Try.info90
    have ho := h1.units
    have hbt : Φ.B0 ≤ w3.heap.size := Nat.le_trans Φ.b0 h1.bel.size
    clear h1 H
    unfold litV
    go_wp2_with (at_builtin; refine wpList_append_lies _ rfl _ _ 61 rfl Φ.B0 90 i0 (.int .i32 0) 1 4 Try.underlying61 hi hz0 hz1 hz2 rfl (by decide) _ _ _ rfl (ho.alloc _) ⟨w3.heap.size, 0, none⟩ 1 1 [.int .i32 l] rfl rfl ?c1 ?c2 (by decide) ?c3 ?c4 ?c5 _ rfl ?_)
    case c1 =>
      intro j u hj
      match j, hj with
      | 0, hj => simp at hj; subst hj; simp [Addr.add]
    case c2 => intro u hu; simp at hu; subst hu; rfl
    case c3 => unfold maxLen; omega
    case c4 => omega
    case c5 => simp; omega
    intro g cap w4 hown' hgrow hat _
    have h4 := H1.out.alloc (.cells #[.int .i32 (l : Int)] 90)
    have hc := Chg.ofOwn h4.units hgrow
    have f3 := (hc.row h4.row (by decide)).cell (i := 3) rfl
    have f4 := (hc.row h4.row (by decide)).frozen 3
    have h5 := h4.unit (l := l) hgrow hown' (hat.imp (fun e => by rw [e]; rfl) (fun e => ⟨g, rfl, by rw [e]; simp⟩))
    have H5 := Lib.hid h5
    clear h5 hown' hgrow hc h4 ho hbt f1 f2 hat
    go_wp2
    go_end0
    exact ⟨rfl, _, H5.out⟩
  · have hpb : decide (l % 2 = 0) = false := by simpa using hp
    have hs : setm m l 1 = m.set (l / 2) (-1) := by unfold setm sgn; rw [if_neg hp]
    rw [hs]
    go_enter Try.func60, Try.ntmps60
    go_wp2_with fail
    refine (pos_any _ _ hl).mono ?_
    rintro e w' ⟨rfl, rfl⟩
    rw [hpb]
    go_wp2_with fail
    go_region_held3 (fun w' => w'.cell? ⟨Φ.p, 4, none⟩ = some (.slice (some ⟨bm, 0, none⟩) 8 8) ∧ w'.cell? ⟨bm, l / 2, none⟩ = some (.int .i64 0)) (go_keep) (first | (go_at_call 44; refine (var_any _ _ hl).mono ?_; rintro e w' ⟨rfl, rfl⟩))
    rename_i hHeld
    clear hHeld
    go_wp2_with fail
    go_region_held3 (fun w' => w'.cell? ⟨Φ.p, 4, none⟩ = some (.slice (some ⟨bm, 0, none⟩) 8 8)) (go_keep) (first | (go_at_call 44; refine (var_any _ _ hl).mono ?_; rintro e w' ⟨rfl, rfl⟩))
    rename_i hHeld
    clear hHeld
    have h1 := (H.out.drew.setM rfl (l / 2) (-1)).drew
    obtain ⟨w3, e3⟩ : ∃ w3, w3 = (w.drew.setCell ⟨bm, l / 2, none⟩ (.int .i64 (-1))).drew := ⟨_, rfl⟩
    rw [← e3] at h1
    have e4 : (w.setCell ⟨bm, l / 2, none⟩ (.int .i64 (-1))).drew.drew = w3 := e3.symm
    clear e3 f1 f2 f3
    rw [e4]
    clear e4
    have H1 := Lib.hid h1
    have f1 := h1.pc (i := 3) rfl
    have f2 := h1.pf 3
    obtain ⟨i0, hi, hz0, hz1, hz2⟩ := info_parts Try.info90
    have ho := h1.units
    have hbt : Φ.B0 ≤ w3.heap.size := Nat.le_trans Φ.b0 h1.bel.size
    clear h1 H
    unfold litV
    go_wp2_with (at_builtin; refine wpList_append_lies _ rfl _ _ 61 rfl Φ.B0 90 i0 (.int .i32 0) 1 4 Try.underlying61 hi hz0 hz1 hz2 rfl (by decide) _ _ _ rfl (ho.alloc _) ⟨w3.heap.size, 0, none⟩ 1 1 [.int .i32 l] rfl rfl ?c1 ?c2 (by decide) ?c3 ?c4 ?c5 _ rfl ?_)
    case c1 =>
      intro j u hj
      match j, hj with
      | 0, hj => simp at hj; subst hj; simp [Addr.add]
    case c2 => intro u hu; simp at hu; subst hu; rfl
    case c3 => unfold maxLen; omega
    case c4 => omega
    case c5 => simp; omega
    intro g cap w4 hown' hgrow hat _
    have h4 := H1.out.alloc (.cells #[.int .i32 (l : Int)] 90)
    have hc := Chg.ofOwn h4.units hgrow
    have f3 := (hc.row h4.row (by decide)).cell (i := 3) rfl
    have f4 := (hc.row h4.row (by decide)).frozen 3
    have h5 := h4.unit (l := l) hgrow hown' (hat.imp (fun e => by rw [e]; rfl) (fun e => ⟨g, rfl, by rw [e]; simp⟩))
    have H5 := Lib.hid h5
    clear h5 hown' hgrow hc h4 ho hbt f1 f2 hat
    go_wp2
    go_end0
    exact ⟨rfl, _, H5.out⟩
end
end Go.Proofs.Ytiimddkopiknpaa
