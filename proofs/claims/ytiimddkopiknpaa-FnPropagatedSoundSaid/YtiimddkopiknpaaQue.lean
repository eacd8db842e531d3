/- The queue of variables, all of activity 0: newQueue. -/
import Derived.Test.YtiimddkopiknpaaPb
import Derived.Test.YtiimddkopiknpaaPrpA
import Derived.Test.YtiimddkopiknpaaPlan
import Derived.Test.YtiimddkopiknpaaParA
import Derived.Deep.LoopGhost
import Derived.Deep.DeepCutAuto
import Derived.Deep.CutBlock
namespace Go.Proofs.Ytiimddkopiknpaa
open Go.RowKit
attribute [local go_sem ↓] Go.wp_at_zero Go.wp_at_succ

/-- A queue under way, in blocks that are younger than W0. -/
structure QS (W0 : World) (q ac : Nat) (cs is : List Value) (cv iv : Value) (w : World) : Prop where
  row : Row w q 66 [.slice (some ⟨ac, 0, none⟩) 8 8, cv, iv]
  act : Row w ac 67 (List.replicate 8 (.float .f64 0))
  con : w.ownsRow W0.heap.size 3 1 cv cs.length cs
  ind : w.ownsRow W0.heap.size 3 1 iv is.length is
  dif : ∀ g, cv.ownBlock = some g → iv.ownBlock ≠ some g
  hg : W0.grownBy w none
  hq : W0.heap.size ≤ q

section
variable {W0 w w' : World} {q ac : Nat} {cs is : List Value} {cv iv : Value}

theorem fresh_grown {W0 w w' : World} (h : W0.grownBy w none) {row : Option Nat} (hg : w.grownBy w' row) (hr : ∀ k, row = some k → W0.heap.size ≤ k) : W0.grownBy w' none := by
  cases row with
  | none => exact grownBy_trans h hg
  | some b => exact grownBy_none_of (grownBy_trans (grownBy_weaken h _) hg) (hr b rfl)

theorem QS.grown (h : QS W0 q ac cs is cv iv w) (hg : w.grownBy w' none) : QS W0 q ac cs is cv iv w' :=
  ⟨h.row.kept hg (by simp), h.act.kept hg (by simp), h.con.kept hg (by cases cv.ownBlock <;> simp), h.ind.kept hg (by cases iv.ownBlock <;> simp), h.dif, grownBy_trans h.hg hg, h.hq⟩

theorem QS.setC (h : QS W0 q ac cs is cv iv w) {g n cap : Nat} (hcv : cv = .slice (some ⟨g, 0, none⟩) n cap) (i : Nat) (v : Value) : QS W0 q ac (cs.set i v) is cv iv (w.setCell ⟨g, i, none⟩ v) := by
  have hn := own_len h.con hcv
  subst hcv hn
  have hg := grownBy_setCell w ⟨g, i, none⟩ v
  have hc := Chg.ofOwn h.con hg
  refine ⟨hc.row h.row (by decide), hc.row h.act (by decide), ?_, h.ind.kept hg (.inr fun hh => h.dif g rfl hh), h.dif, fresh_grown h.hg hg (own_le h.con (Nat.le_refl _)), h.hq⟩
  rw [List.length_set]
  exact own_set h.con i v
theorem QS.setI (h : QS W0 q ac cs is cv iv w) {g n cap : Nat} (hiv : iv = .slice (some ⟨g, 0, none⟩) n cap) (i : Nat) (v : Value) : QS W0 q ac cs (is.set i v) cv iv (w.setCell ⟨g, i, none⟩ v) := by
  have hn := own_len h.ind hiv
  subst hiv hn
  have hg := grownBy_setCell w ⟨g, i, none⟩ v
  have hc := Chg.ofOwn h.ind hg
  refine ⟨hc.row h.row (by decide), hc.row h.act (by decide), h.con.kept hg (.inr fun hh => h.dif g hh rfl), ?_, h.dif, fresh_grown h.hg hg (own_le h.ind (Nat.le_refl _)), h.hq⟩
  rw [List.length_set]
  exact own_set h.ind i v

theorem QS.appC (h : QS W0 q ac cs is cv iv w) {w1 : World} {cv' v : Value} (hg : w.grownBy w1 cv.ownBlock) (ho : w1.ownsRow W0.heap.size 3 1 cv' (cs.length + 1) (cs ++ [v])) (hv : cv'.ownBlock = cv.ownBlock ∨ ∃ g, cv'.ownBlock = some g ∧ w.heap.size ≤ g) :
    QS W0 q ac (cs ++ [v]) is cv' iv (w1.setCell ⟨q, 1, none⟩ cv') := by
  have hc := Chg.ofOwn h.con hg
  have r1 := hc.row h.row (by decide)
  have hd : Chg w1 (w1.setCell ⟨q, 1, none⟩ cv') (some q) 66 := Chg.set r1 1 cv'
  refine ⟨r1.set 1 cv', hd.row (hc.row h.act (by decide)) (by decide), hd.own (by simpa using ho) (by decide), hd.own (hc.ownNe h.ind fun g hg' hh => h.dif g hh hg') (by decide), ?_,
    fresh_grown (fresh_grown h.hg hg (own_le h.con (Nat.le_refl _))) hd.hg (some_le h.hq), h.hq⟩
  intro g hg1 hg2
  rcases hv with hv | ⟨g', hv, hle⟩
  · exact h.dif g (hv ▸ hg1) hg2
  · rw [hv] at hg1
    injection hg1 with hg1
    have := (h.ind.lt g hg2).2
    omega
theorem QS.appI (h : QS W0 q ac cs is cv iv w) {w1 : World} {iv' v : Value} (hg : w.grownBy w1 iv.ownBlock) (ho : w1.ownsRow W0.heap.size 3 1 iv' (is.length + 1) (is ++ [v])) (hv : iv'.ownBlock = iv.ownBlock ∨ ∃ g, iv'.ownBlock = some g ∧ w.heap.size ≤ g) :
    QS W0 q ac cs (is ++ [v]) cv iv' (w1.setCell ⟨q, 2, none⟩ iv') := by
  have hc := Chg.ofOwn h.ind hg
  have r1 := hc.row h.row (by decide)
  have hd : Chg w1 (w1.setCell ⟨q, 2, none⟩ iv') (some q) 66 := Chg.set r1 2 iv'
  refine ⟨r1.set 2 iv', hd.row (hc.row h.act (by decide)) (by decide), hd.own (hc.ownNe h.con fun g hg' hh => h.dif g hg' hh) (by decide), hd.own (by simpa using ho) (by decide), ?_,
    fresh_grown (fresh_grown h.hg hg (own_le h.ind (Nat.le_refl _))) hd.hg (some_le h.hq), h.hq⟩
  intro g hg1 hg2
  rcases hv with hv | ⟨g', hv, hle⟩
  · exact h.dif g hg1 (hv ▸ hg2)
  · rw [hv] at hg2
    injection hg2 with hg2
    have := (h.con.lt g hg1).2
    omega

theorem par_any (i : Nat) (w : World) (h1 : 1 ≤ i) (h2 : i ≤ 100) : Calls Try.prog 77 #[.int .i64 (i : Int)] w fun e w' => e = .returned (.int .i64 (((i - 1) / 2 : Nat) : Int)) ∧ w = w' := by
  have b1 : IntKind.i64.wrap ((i : Int) - 1) = ((i - 1 : Nat) : Int) := by rw [IntWalk.i64_in _ (by omega)]; omega
  go_enter Try.func77, Try.ntmps77
  go_wp2
  go_ret
  exact ⟨by simp, rfl⟩
theorem par0_any (w : World) : Calls Try.prog 77 #[.int .i64 0] w fun e w' => e = .returned (.int .i64 (-1)) ∧ w = w' := by
  go_enter Try.func77, Try.ntmps77
  go_wp2
  go_ret
  exact ⟨by simp, rfl⟩

theorem flt0 : (FloatKind.f64.format.order 0 0 == some Ordering.gt) = false := by kernel_rfl
set_option maxRecDepth 100000 in
theorem lt_any (h : QS W0 q ac cs is cv iv w) (a b : Nat) (ha : a < 8) (hb : b < 8) : Calls Try.prog 78 #[.pointer (some ⟨q, 0, none⟩), .int .i64 (a : Int), .int .i64 (b : Int)] w fun e w' => e = .returned (.bool false) ∧ ∃ n, w' = w.drewN n := by
  have f1 := h.row.cell (i := 0) rfl
  have f2 : w.cell? ⟨ac, a, none⟩ = some (.float .f64 0) := h.act.cell (by rw [List.getElem?_replicate, if_pos ha])
  have f3 : w.cell? ⟨ac, b, none⟩ = some (.float .f64 0) := h.act.cell (by rw [List.getElem?_replicate, if_pos hb])
  have a0 : (0 : Int) ≤ (a : Int) := by omega
  have a1 : (a : Int) < 8 := by omega
  have b0 : (0 : Int) ≤ (b : Int) := by omega
  have b1 : (b : Int) < 8 := by omega
  have hf := flt0
  clear h
  go_enter Try.func78, Try.ntmps78
  go_wp2
  go_quiet (fail)
  go_wp2
  go_ret
  exact ⟨by simp, _, rfl⟩

/-- The numbers below n. -/
def nums (n : Nat) : List Value := (List.range n).map fun (k : Nat) => .int .i64 (k : Int)
theorem nums_get {n i : Nat} (h : i < n) : (nums n)[i]? = some (.int .i64 (i : Int)) := by simp [nums, h]
theorem nums_length (n : Nat) : (nums n).length = n := by simp [nums]
theorem nums_set {n i : Nat} (h : i < n) : (nums n).set i (.int .i64 (i : Int)) = nums n := by
  refine List.ext_getElem? fun j => ?_
  rw [List.getElem?_set]
  by_cases e : i = j
  · subst e; rw [if_pos rfl, if_pos (by rw [nums_length]; exact h), nums_get h]
  · rw [if_neg e]

set_option maxRecDepth 100000 in
set_option maxHeartbeats 400000 in
theorem perc_any {n i : Nat} (h : QS W0 q ac (nums n) (nums n) cv iv w) (hi : i < n) (hn : n ≤ 8) :
    Calls Try.prog 68 #[.pointer (some ⟨q, 0, none⟩), .int .i64 (i : Int)] w fun e w' => e = .returned (.tuple #[]) ∧ QS W0 q ac (nums n) (nums n) cv iv w' := by
  obtain ⟨gc, cc, rfl, c1, c1f, _, _⟩ := own_cell h.con (nums_get hi)
  obtain ⟨gi, ci, rfl, d1, d1f, _, _⟩ := own_cell h.ind (nums_get hi)
  rw [nums_length] at *
  have f1 := h.row.cell (i := 1) rfl
  have f2 := h.row.cell (i := 2) rfl
  have i0 : (0 : Int) ≤ (i : Int) := by omega
  have i1 : (i : Int) < (n : Int) := by omega
  have h2 := (h.setC rfl i (.int .i64 (i : Int))).setI rfl i (.int .i64 (i : Int))
  rw [nums_set hi] at h2
  have dg1 : ¬ gi = gc := fun e => h.dif gc rfl (by rw [e]; rfl)
  have dg2 : ¬ gc = gi := fun e => dg1 e.symm
  have dq1 : ¬ gc = q := fun e => own_ne h.con h.row (.inl (by decide)) (by rw [e]; rfl)
  have dq2 : ¬ gi = q := fun e => own_ne h.ind h.row (.inl (by decide)) (by rw [e]; rfl)
  have H := Lib.hid h
  have H2 := Lib.hid h2
  clear h h2
  by_cases hz : i = 0
  · subst hz
    go_enter Try.func68, Try.ntmps68
    go_wp2_with fail
    refine (par0_any _).mono ?_
    rintro e' w' ⟨rfl, rfl⟩
    go_wp2_with fail
    go_loopg [1, 5] 0 (fun gk iv pv wr => iv = .int .i64 0 ∧ pv = .int .i64 (-1) ∧ wr = w)
    case atStart => exact ⟨rfl, rfl, rfl⟩
    case round =>
      obtain ⟨rfl, rfl, hwe⟩ := hrel
      subst hwe
      go_wp2_with fail
      go_end0
      exact ⟨rfl, H2.out⟩
  · obtain ⟨p, hp⟩ : ∃ p, p = (i - 1) / 2 := ⟨_, rfl⟩
    have hpn : p < n := by omega
    have HPp := Lib.hid hp
    clear hp
    obtain ⟨_, _, e1, c2, _, _, _⟩ := own_cell H.out.con (nums_get hpn)
    injection e1 with e1 e2 e3
    injection e1 with e1
    injection e1 with e1
    subst e1 e3
    clear e2
    have p0 : (0 : Int) ≤ (p : Int) := by omega
    have p1 : (p : Int) < (n : Int) := by omega
    have hzb : ((i : Int) != 0) = true := by simpa using hz
    go_enter Try.func68, Try.ntmps68
    go_wp2_with fail
    refine (par_any i _ (by omega) (by omega)).mono ?_
    rintro e' w' ⟨rfl, rfl⟩
    rw [← HPp.out]
    go_wp2_with fail
    go_loopg [1, 5] 0 (fun gk iv pv wr => iv = .int .i64 (i : Int) ∧ pv = .int .i64 (p : Int) ∧ wr = w)
    case atStart => exact ⟨rfl, rfl, rfl⟩
    case round =>
      obtain ⟨rfl, rfl, hwe⟩ := hrel
      subst hwe
      go_wp2_with fail
      refine (lt_any H.out i p (by omega) (by omega)).mono ?_
      rintro e' w' ⟨rfl, nd, hw'⟩
      have h' : QS W0 q ac (nums n) (nums n) (.slice (some ⟨gc, 0, none⟩) n cc) (.slice (some ⟨gi, 0, none⟩) n ci) w' := by rw [hw']; exact H.out.grown (grownBy_drewN _ nd none)
      clear hw' c1 c1f d1 d1f f1 f2 c2
      obtain ⟨_, _, e1, c1, c1f, _, _⟩ := own_cell h'.con (nums_get hi)
      injection e1 with e1 e2 e3
      injection e1 with e1
      injection e1 with e1
      subst e1 e3
      clear e2
      obtain ⟨_, _, e1, d1, d1f, _, _⟩ := own_cell h'.ind (nums_get hi)
      injection e1 with e1 e2 e3
      injection e1 with e1
      injection e1 with e1
      subst e1 e3
      clear e2
      have f1 := h'.row.cell (i := 1) rfl
      have f2 := h'.row.cell (i := 2) rfl
      have h2 := (h'.setC rfl i (.int .i64 (i : Int))).setI rfl i (.int .i64 (i : Int))
      rw [nums_set hi] at h2
      have H3 := Lib.hid h2
      clear h2 h' H2
      go_wp2_with fail
      go_end0
      exact ⟨rfl, H3.out⟩

theorem Try.info3 : (Try.prog.info? 3).map (fun i => (i.zero, i.size, i.bytes)) = some (some (.int .i64 0), 1, 8) := by kernel_rfl
theorem nums_succ (n : Nat) : nums (n + 1) = nums n ++ [.int .i64 (n : Int)] := by simp [nums, List.range_succ]

set_option maxRecDepth 100000 in
set_option maxHeartbeats 1000000 in
theorem ins_any {n : Nat} (h : QS W0 q ac (nums n) (nums n) cv iv w) (hn : n < 8) :
    Calls Try.prog 50 #[.pointer (some ⟨q, 0, none⟩), .int .i64 (n : Int)] w fun e w' => e = .returned (.tuple #[]) ∧ ∃ cv' iv', QS W0 q ac (nums (n + 1)) (nums (n + 1)) cv' iv' w' := by
  obtain ⟨ia, icap, hiv, hic, him, _⟩ := own_form h.ind
  rw [nums_length] at hiv hic
  have f2 := h.row.cell (i := 2) rfl
  rw [hiv] at f2
  obtain ⟨i0, hi0, hz0, hz1, hz2⟩ := info_parts Try.info3
  have H := Lib.hid h
  clear h hiv
  go_enter Try.func50, Try.ntmps50
  go_wp2_with fail
  go_loopg [4] 1 (fun gk jv wr => (jv = .int .i64 (n : Int) ∧ gk = 1 ∧ QS W0 q ac (nums n) (nums n) cv iv wr) ∨ (jv = .int .i64 ((n + 1 : Nat) : Int) ∧ gk = 0 ∧ ∃ iv', QS W0 q ac (nums n) (nums n ++ [.int .i64 (-1)]) cv iv' wr))
  case atStart => exact .inl ⟨rfl, rfl, H.out⟩
  case round =>
    clear f2
    rcases hrel with ⟨rfl, hgk, hq⟩ | ⟨rfl, hgk, iv', hq⟩
    · have f2 := hq.row.cell (i := 2) rfl
      have f2f := hq.row.frozen 2
      have ho := hq.ind
      have hbt : W0.heap.size ≤ wr.heap.size := hq.hg.size
      have HQ := Lib.hid hq
      have HG := Lib.hid hgk
      have hnl : (nums n).length = n := nums_length n
      have HNL := Lib.hid hnl
      clear hq hgk hnl
      go_wp2_with (at_builtin; refine wpList_append_lies _ rfl _ _ 23 rfl W0.heap.size 3 i0 (.int .i64 0) 1 8 Try.underlying23 hi0 hz0 hz1 hz2 rfl (by decide) _ _ _ rfl (ho.alloc _) ⟨wr.heap.size, 0, none⟩ 1 1 [.int .i64 (-1)] rfl rfl ?c1 ?c2 (by decide) ?c3 ?c4 ?c5 _ rfl ?_)
      case c1 =>
        intro j u hj
        match j, hj with
        | 0, hj => simp at hj; subst hj; simp [Addr.add]
      case c2 => intro u hu; simp at hu; subst hu; rfl
      case c3 => rw [HNL.out]; unfold maxLen; omega
      case c4 => rw [HNL.out]; omega
      case c5 => simp; omega
      intro g cap w4 hown' hgrow hat _
      have h4 := HQ.out.grown (World.grownBy_alloc wr (.cells #[.int .i64 (-1)] 3) none)
      have hc := Chg.ofOwn h4.ind hgrow
      have f3 := (hc.row h4.row (by decide)).cell (i := 2) rfl
      have f4 := (hc.row h4.row (by decide)).frozen 2
      have h5 := h4.appI hgrow hown' (hat.imp (fun e => by rw [e]; rfl) (fun e => ⟨g, rfl, by rw [e]; simp⟩))
      have H5 := Lib.hid h5
      clear h5 hown' hgrow hc h4 ho hbt f2 f2f hat
      go_wp2_with fail
      go_roundg 0
      case measure => have := HG.out; omega
      case rel => exact .inr ⟨by go_num, rfl, _, H5.out⟩
    · obtain ⟨ga, gcap, hiv', _, _, hia⟩ := own_form hq.ind
      have hl : (nums n ++ [Value.int .i64 (-1)]).length = n + 1 := by simp [nums_length]
      rw [hl] at hiv' hia
      obtain ⟨gi, rfl⟩ := hia (by omega)
      subst hiv'
      obtain ⟨ca, ccap, hcv, _, _, _⟩ := own_form hq.con
      rw [nums_length] at hcv
      obtain ⟨_, _, e1, d1, d1f, _, _⟩ := own_cell hq.ind (i := n) (u := .int .i64 (-1)) (by rw [List.getElem?_append_right (by rw [nums_length]; omega), nums_length]; simp)
      injection e1 with e1 e2 e3
      injection e1 with e1
      injection e1 with e1
      subst e1 e3
      clear e2
      have f1 := hq.row.cell (i := 1) rfl
      have f2 := hq.row.cell (i := 2) rfl
      have f1' := f1
      rw [hcv] at f1
      have n0 : (0 : Int) ≤ (n : Int) := by omega
      have n1 : (n : Int) < ((n + 1 : Nat) : Int) := by omega
      have n2 : (n : Int) < (n : Int) + 1 := by omega
      have hset : (nums n ++ [Value.int .i64 (-1)]).set n (.int .i64 (n : Int)) = nums (n + 1) := by
        rw [List.set_append_right _ _ (by rw [nums_length]; omega), nums_length, nums_succ]; simp
      have h2 := (hq.setI rfl n (.int .i64 (n : Int))).grown (grownBy_drew _ none)
      rw [hset] at h2
      have H2 := Lib.hid h2
      have ho := h2.con
      have hbt : W0.heap.size ≤ (wr.setCell ⟨gi, n, none⟩ (.int .i64 (n : Int))).drew.heap.size := h2.hg.size
      have hnl : (nums n).length = n := nums_length n
      have HNL := Lib.hid hnl
      clear h2 hset hgk hq f1' hnl
      have HCV := Lib.hid hcv
      clear hcv
      go_wp2_with fail
      refine wp_region_lex (fun w' => w'.cell? ⟨q, 1, none⟩ = some (.slice ca n ccap) ∧ w'.cell? ⟨q, 2, none⟩ = some (.slice (some ⟨gi, 0, none⟩) (n + 1) gcap))
        [false, false, false, false, false, false, false, false, false, false] (by kernel_rfl) (by kernel_rfl) ⟨f1, f2⟩ ?_
      iterate 10
        refine lex_take (v := ?_) (.inl ⟨by rfl, ?_⟩) (fun _ _ _ h => h) ?_
        rotate_left
        · (intro w hSw; (try dsimp only at hSw); go_simp; try with_reducible rfl)
        simp only [Act.put, List.setIfInBounds_toArray, List.set]
      refine lex_tail ?_
      have k1 := H2.out.row.cell (i := 1) rfl
      have k1f := H2.out.row.frozen 1
      have k2 := H2.out.row.cell (i := 2) rfl
      go_wp2_with (at_builtin; refine wpList_append_lies _ rfl _ _ 23 rfl W0.heap.size 3 i0 (.int .i64 0) 1 8 Try.underlying23 hi0 hz0 hz1 hz2 rfl (by decide) _ _ _ rfl (ho.alloc _) ⟨wr.heap.size, 0, none⟩ 1 1 [.int .i64 n] rfl rfl ?c1 ?c2 (by decide) ?c3 ?c4 ?c5 _ rfl ?_)
      case c1 =>
        intro j u hj
        match j, hj with
        | 0, hj =>
          simp at hj
          subst hj
          have e : (wr.setCell ⟨gi, n, none⟩ (.int .i64 (n : Int))).heap.size = wr.heap.size := by simp [World.setCell]
          have h9 := (Row.new (wr.setCell ⟨gi, n, none⟩ (.int .i64 (n : Int))) 3 [.int .i64 (n : Int)]).cell (i := 0) rfl
          rw [e] at h9
          simp [Addr.add]
          exact h9
      case c2 => intro u hu; simp at hu; subst hu; rfl
      case c3 => rw [HNL.out]; unfold maxLen; omega
      case c4 => rw [HNL.out]; omega
      case c5 => simp at hbt ⊢; omega
      intro g cap w6 hown' hgrow hat _
      have h4 : QS W0 q ac (nums n) (nums (n + 1)) cv (.slice (some ⟨gi, 0, none⟩) (n + 1) gcap) ((wr.setCell ⟨gi, n, none⟩ (.int .i64 (n : Int))).alloc (.cells #[.int .i64 (n : Int)] 3)).drew :=
        H2.out.grown (World.grownBy_alloc _ (.cells #[.int .i64 (n : Int)] 3) none)
      have hc := Chg.ofOwn h4.con hgrow
      have f3 := (hc.row h4.row (by decide)).cell (i := 1) rfl
      have f4 := (hc.row h4.row (by decide)).frozen 1
      have h5 := h4.appC (cv' := .slice (some ⟨g, 0, none⟩) ((nums n).length + 1) cap) hgrow hown' (hat.imp (fun e => by rw [e]; rfl) (fun e => ⟨g, rfl, by rw [e]; simp⟩))
      rw [← nums_succ] at h5
      obtain ⟨_, _, e1, k3, _, _, _⟩ := own_cell h5.ind (nums_get (Nat.lt_succ_self n))
      injection e1 with e1 e2 e3
      injection e1 with e1
      injection e1 with e1
      subst e1 e3
      clear e2
      have k4 := h5.row.cell (i := 2) rfl
      have H5 := Lib.hid h5
      clear h5 hown' hgrow hc h4 ho hbt hat k1 k1f k2
      go_wp2_with fail
      refine (perc_any H5.out (Nat.lt_succ_self n) (by omega)).mono ?_
      rintro e' w7 ⟨rfl, h7⟩
      have H7 := Lib.hid h7
      clear h7
      go_wp2_with fail
      go_end0
      exact ⟨rfl, _, _, H7.out⟩

theorem Try.size66 : (Try.prog.info? 66).map (·.size) = some 3 := by kernel_rfl
set_option maxRecDepth 100000 in
set_option maxHeartbeats 1000000 in
theorem queue_any (hact : Row w ac 67 (List.replicate 8 (.float .f64 0))) :
    Calls Try.prog 42 #[.slice (some ⟨ac, 0, none⟩) 8 8] w fun e w' => (∃ a1 n1 c1 a2 n2 c2, e = .returned (.agg #[.slice (some ⟨ac, 0, none⟩) 8 8, .slice a1 n1 c1, .slice a2 n2 c2])) ∧ w.grownBy w' none := by
  have h1 : QS (w.alloc (.cells #[.slice none 0 0, .slice none 0 0, .slice none 0 0] 66)) (w.heap.size + 1) ac (nums 0) (nums 0) (.slice none 0 0) (.slice none 0 0)
      ((w.alloc (.cells #[.slice none 0 0, .slice none 0 0, .slice none 0 0] 66)).alloc (.cells #[.slice (some ⟨ac, 0, none⟩) 8 8, .slice none 0 0, .slice none 0 0] 66)) := by
    have e1 : (w.alloc (.cells #[.slice none 0 0, .slice none 0 0, .slice none 0 0] 66)).heap.size = w.heap.size + 1 := by simp
    refine ⟨?_, (hact.alloc _).alloc _, ⟨rfl, .inl ⟨rfl, rfl⟩⟩, ⟨rfl, .inl ⟨rfl, rfl⟩⟩, (fun g hg => by cases hg), World.grownBy_alloc _ _ none, by rw [e1]; exact Nat.le_refl _⟩
    have := Row.new (w.alloc (.cells #[.slice none 0 0, .slice none 0 0, .slice none 0 0] 66)) 66 [.slice (some ⟨ac, 0, none⟩) 8 8, .slice none 0 0, .slice none 0 0]
    rw [e1] at this
    exact this
  have hr1 := Row.new w 66 [.slice none 0 0, .slice none 0 0, .slice none 0 0]
  have hg1 := World.grownBy_alloc w (.cells #[.slice none 0 0, .slice none 0 0, .slice none 0 0] 66) none
  have H1 := Lib.hid h1
  clear h1
  go_enter Try.func42, Try.ntmps42
  go_wp2_with fail
  obtain ⟨r, hr⟩ : ∃ r, r = w.heap.size := ⟨_, rfl⟩
  obtain ⟨w1, hw1⟩ : ∃ w1, w1 = w.alloc (.cells #[.slice none 0 0, .slice none 0 0, .slice none 0 0] 66) := ⟨_, rfl⟩
  have hr1' : Row w1 r 66 [.slice none 0 0, .slice none 0 0, .slice none 0 0] := by rw [hr, hw1]; exact hr1
  have hg1' : w.grownBy w1 none := by rw [hw1]; exact hg1
  have hrq : ¬ w.heap.size + 1 = r := by omega
  rw [← hw1] at H1 ⊢
  rw [← hr] at H1 hrq ⊢
  have HR1 := Lib.hid hr1'
  have HG1 := Lib.hid hg1'
  have HRw := Lib.hid hr
  clear hr1 hg1 hr1' hg1' hw1 hr
  generalize hq : r + 1 = q at H1 hrq ⊢
  clear hq
  go_loopg [10] 8 (fun gk jv wr => ∃ (j : Nat) (cv iv : Value), jv = .int .i64 (j : Int) ∧ j + gk = 8 ∧ QS w1 q ac (nums j) (nums j) cv iv wr)
  case atStart => exact ⟨0, _, _, rfl, rfl, H1.out⟩
  case round =>
    obtain ⟨j, cv, iv, rfl, hgk, hq⟩ := hrel
    clear H1
    have HG := Lib.hid hgk
    have HQ := Lib.hid hq
    clear hgk hq
    by_cases hj : j < 8
    · go_wp2_with fail
      refine (ins_any HQ.out hj).mono ?_
      rintro e' w5 ⟨rfl, cv', iv', h5⟩
      have H5 := Lib.hid h5
      clear h5
      go_wp2_with fail
      go_roundg (gk - 1)
      case measure => have := HG.out; omega
      case rel => exact ⟨j + 1, cv', iv', by go_num, by have := HG.out; omega, H5.out⟩
    · obtain ⟨ca, cc, hcv, _, _, _⟩ := own_form HQ.out.con
      obtain ⟨ia, ic, hiv, _, _, _⟩ := own_form HQ.out.ind
      have f0 := HQ.out.row.cell (i := 0) rfl
      have f1 := HQ.out.row.cell (i := 1) rfl
      have f2 := HQ.out.row.cell (i := 2) rfl
      have hr := HR1.out.kept HQ.out.hg (by simp)
      have g0 := hr.cell (i := 0) rfl
      have g1 := hr.cell (i := 1) rfl
      have g2 := hr.cell (i := 2) rfl
      have k0 := hr.frozen 0
      have k1 := hr.frozen 1
      have k2 := hr.frozen 2
      have HF : Hid (∀ a b c, w.grownBy (((wr.setCell ⟨r, 0, none⟩ a).setCell ⟨r, 1, none⟩ b).setCell ⟨r, 2, none⟩ c) none) := Lib.hid fun a b c =>
        fresh_grown (grownBy_trans HG1.out HQ.out.hg) (grownBy_trans (grownBy_trans (grownBy_setCell wr ⟨r, 0, none⟩ a) (grownBy_setCell _ ⟨r, 1, none⟩ b)) (grownBy_setCell _ ⟨r, 2, none⟩ c)) (some_le (Nat.le_of_eq HRw.out.symm))
      subst hcv hiv
      have HR := Lib.hid hr
      clear hr HR1 HQ
      go_wp2_with fail
      refine ⟨rfl, .agg #[.slice (some ⟨ac, 0, none⟩) 8 8, .slice ca (nums j).length cc, .slice ia (nums j).length ic], ?_, ⟨_, _, _, _, _, _, rfl⟩, HF.out _ _ _⟩
      have hrow := ((HR.out.set 0 (.slice (some ⟨ac, 0, none⟩) 8 8)).set 1 (.slice ca (nums j).length cc)).set 2 (.slice ia (nums j).length ic)
      exact results_cell_row (fn := Try.f42) (p := 2) (ty := 66) rfl _ _ r 66 #[.slice (some ⟨ac, 0, none⟩) 8 8, .slice ca (nums j).length cc, .slice ia (nums j).length ic] (0, 0) _ rfl hrow Try.underlying66 rfl Try.size66
end
end Go.Proofs.Ytiimddkopiknpaa
