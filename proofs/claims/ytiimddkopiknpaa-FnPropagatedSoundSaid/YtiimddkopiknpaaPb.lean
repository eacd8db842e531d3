/- The memory of a problem while it is read and simplified. -/
import Derived.Test.YtiimddkopiknpaaSpcA
namespace Go.Proofs.Ytiimddkopiknpaa
open Go.RowKit

structure PL where
  w0 : World
  B0 : Nat
  p : Nat
  b0 : B0 ≤ w0.heap.size
  bp : B0 ≤ p

/-- The problem's struct. -/
def pRow (cv : Value) (st : Int) (uv mv : Value) : List Value := [.int .i64 8, cv, .int .u8 st, uv, mv, .slice none 0 0, .slice none 0 0]
/-- Pointers to clauses. -/
def ptrs (cb : Nat → Nat) (CS : List Nat) : List Value := CS.map fun k => .pointer (some ⟨cb k, 0, none⟩)

structure PMem (Φ : PL) (w : World) (st : Int) (us : List Nat) (uv : Value) (CS : List Nat) (cv : Value) (K : Nat) (cb lb : Nat → Nat) (L : Nat → List Nat) (mv : Value) (m : List Int) : Prop where
  row : Row w Φ.p 88 (pRow cv st uv mv)
  units : w.ownsRow Φ.B0 90 1 uv us.length (us.map litV)
  cls : w.ownsRow Φ.B0 50 1 cv CS.length (ptrs cb CS)
  db : ∀ k, k < K → ClauseAt w (cb k) (lb k) (L k) 0
  cbI : ∀ k k', k < K → k' < K → cb k = cb k' → k = k'
  lbI : ∀ k k', k < K → k' < K → lb k = lb k' → k = k'
  bcb : ∀ k, k < K → Φ.B0 ≤ cb k
  blb : ∀ k, k < K → Φ.B0 ≤ lb k
  ul : ∀ k, k < K → uv.ownBlock ≠ some (lb k)
  mod : (mv = .slice none 0 0 ∧ m = []) ∨ ∃ bm, mv = .slice (some ⟨bm, 0, none⟩) 8 8 ∧ Φ.B0 ≤ bm ∧ Row w bm 51 (m.map (Value.int .i64)) ∧ m.length = 8
  bel : Below Φ.B0 Φ.w0 w

section
variable {Φ : PL} {w w' : World} {st : Int} {us : List Nat} {uv : Value} {CS : List Nat} {cv : Value} {K : Nat} {cb lb : Nat → Nat} {L : Nat → List Nat} {mv : Value} {m : List Int}

theorem PMem.below (h : PMem Φ w st us uv CS cv K cb lb L mv m) {row : Option Nat} (hg : w.grownBy w' row) (hr : ∀ k, row = some k → Φ.B0 ≤ k) : Below Φ.B0 Φ.w0 w' :=
  h.bel.grown hg (Nat.le_trans Φ.b0 h.bel.size) hr

theorem Chg.mod {row : Option Nat} {e0 : TypeId} {B0 : Nat} (hc : Chg w w' row e0) (he : (51 : Nat) ≠ e0)
    (h : (mv = .slice none 0 0 ∧ m = []) ∨ ∃ bm, mv = .slice (some ⟨bm, 0, none⟩) 8 8 ∧ B0 ≤ bm ∧ Row w bm 51 (m.map (Value.int .i64)) ∧ m.length = 8) :
    (mv = .slice none 0 0 ∧ m = []) ∨ ∃ bm, mv = .slice (some ⟨bm, 0, none⟩) 8 8 ∧ B0 ≤ bm ∧ Row w' bm 51 (m.map (Value.int .i64)) ∧ m.length = 8 :=
  h.imp id fun ⟨bm, a, b, c, d⟩ => ⟨bm, a, b, hc.row c he, d⟩

theorem Chg.none_of (hg : w.grownBy w' none) (e : TypeId) : Chg w w' none e := ⟨hg, fun _ h => by cases h⟩

/-- Memory is only taken. -/
theorem PMem.grown (h : PMem Φ w st us uv CS cv K cb lb L mv m) (hg : w.grownBy w' none) : PMem Φ w' st us uv CS cv K cb lb L mv m :=
  have hc := Chg.none_of hg 0
  ⟨hc.row h.row (by decide), hc.own h.units (by decide), hc.own h.cls (by decide), fun k hk => hc.clause (h.db k hk) (by decide) (by decide), h.cbI, h.lbI, h.bcb, h.blb, h.ul, hc.mod (by decide) h.mod, h.below hg (fun _ h => by cases h)⟩
theorem PMem.drewN (h : PMem Φ w st us uv CS cv K cb lb L mv m) (n : Nat) : PMem Φ (w.drewN n) st us uv CS cv K cb lb L mv m := h.grown (grownBy_drewN w n none)
theorem PMem.drew (h : PMem Φ w st us uv CS cv K cb lb L mv m) : PMem Φ w.drew st us uv CS cv K cb lb L mv m := h.drewN 1
theorem PMem.alloc (h : PMem Φ w st us uv CS cv K cb lb L mv m) (o : Obj) : PMem Φ (w.alloc o) st us uv CS cv K cb lb L mv m := h.grown (World.grownBy_alloc w o none)

/-- A cell of the problem's struct is set; what it speaks of is given anew. -/
theorem PMem.status (h : PMem Φ w st us uv CS cv K cb lb L mv m) (st' : Int) : PMem Φ (w.setCell ⟨Φ.p, 2, none⟩ (.int .u8 st')) st' us uv CS cv K cb lb L mv m :=
  have hc := Chg.set h.row 2 (.int .u8 st')
  ⟨h.row.set 2 (.int .u8 st'), hc.own h.units (by decide), hc.own h.cls (by decide), fun k hk => hc.clause (h.db k hk) (by decide) (by decide), h.cbI, h.lbI, h.bcb, h.blb, h.ul, hc.mod (by decide) h.mod, h.below hc.hg (some_le Φ.bp)⟩

/-- A unit is appended. -/
theorem PMem.unit (h : PMem Φ w st us uv CS cv K cb lb L mv m) {w1 : World} {uv' : Value} {l : Nat} (hg : w.grownBy w1 uv.ownBlock) (ho : w1.ownsRow Φ.B0 90 1 uv' (us.length + 1) (us.map litV ++ [litV l]))
    (hv : uv'.ownBlock = uv.ownBlock ∨ ∃ g, uv'.ownBlock = some g ∧ w.heap.size ≤ g) : PMem Φ (w1.setCell ⟨Φ.p, 3, none⟩ uv') st (us ++ [l]) uv' CS cv K cb lb L mv m := by
  have hc := Chg.ofOwn h.units hg
  have r1 := hc.row h.row (by decide)
  have hd : Chg w1 (w1.setCell ⟨Φ.p, 3, none⟩ uv') (some Φ.p) 88 := Chg.set r1 3 uv'
  have hdb : ∀ k, k < K → ClauseAt w1 (cb k) (lb k) (L k) 0 := fun k hk => hc.clauseNe (h.db k hk)
    (fun hh => let ⟨_, _, _, a2⟩ := (h.db k hk).hdr; own_ne h.units a2 (.inl (by decide)) hh) (h.ul k hk)
  refine ⟨r1.set 3 uv', ?_, hd.own (hc.own h.cls (by decide)) (by decide), fun k hk => hd.clause (hdb k hk) (by decide) (by decide), h.cbI, h.lbI, h.bcb, h.blb, ?_, hd.mod (by decide) (hc.mod (by decide) h.mod),
    (h.below hg (own_le h.units (Nat.le_refl _))).grown hd.hg (Nat.le_trans (Nat.le_trans Φ.b0 h.bel.size) hg.size) (some_le Φ.bp)⟩
  · have := hd.own ho (by decide)
    simpa using this
  · intro k hk hh
    rcases hv with hv | ⟨g, hv, hle⟩
    · exact h.ul k hk (hv ▸ hh)
    · rw [hv] at hh
      injection hh with hh
      obtain ⟨_, a3⟩ := (h.db k hk).row
      have := a3.lt
      omega

/-- A clause is laid: it gets the next number. -/
theorem PMem.laid (h : PMem Φ w st us uv CS cv K cb lb L mv m) (hCS : ∀ k ∈ CS, k < K) {c b : Nat} {l : List Nat} (a : ClauseAt w c b l 0) (hc : ∀ k, k < K → cb k ≠ c) (hb : ∀ k, k < K → lb k ≠ b) (h1 : Φ.B0 ≤ c) (h2 : Φ.B0 ≤ b) (hu : uv.ownBlock ≠ some b) :
    PMem Φ w st us uv CS cv (K + 1) (upd cb K c) (upd lb K b) (upd L K l) mv m := by
  refine ⟨h.row, h.units, ?_, ?_, ?_, ?_, ?_, ?_, ?_, h.mod, h.bel⟩
  · have : ptrs (upd cb K c) CS = ptrs cb CS := List.map_congr_left fun k hk => by rw [upd_other _ _ (by have := hCS k hk; omega)]
    rw [this]; exact h.cls
  · intro k hk
    by_cases e : k = K
    · subst e; simpa using a
    · rw [upd_other _ _ e, upd_other _ _ e, upd_other _ _ e]; exact h.db k (by omega)
  · intro k k' hk hk' he
    by_cases e : k = K
    · by_cases e' : k' = K
      · omega
      · subst e; rw [upd_same, upd_other _ _ e'] at he; exact absurd he.symm (hc k' (by omega))
    · by_cases e' : k' = K
      · subst e'; rw [upd_same, upd_other _ _ e] at he; exact absurd he (hc k (by omega))
      · rw [upd_other _ _ e, upd_other _ _ e'] at he; exact h.cbI k k' (by omega) (by omega) he
  · intro k k' hk hk' he
    by_cases e : k = K
    · by_cases e' : k' = K
      · omega
      · subst e; rw [upd_same, upd_other _ _ e'] at he; exact absurd he.symm (hb k' (by omega))
    · by_cases e' : k' = K
      · subst e'; rw [upd_same, upd_other _ _ e] at he; exact absurd he (hb k (by omega))
      · rw [upd_other _ _ e, upd_other _ _ e'] at he; exact h.lbI k k' (by omega) (by omega) he
  · intro k hk
    by_cases e : k = K
    · subst e; simpa using h1
    · rw [upd_other _ _ e]; exact h.bcb k (by omega)
  · intro k hk
    by_cases e : k = K
    · subst e; simpa using h2
    · rw [upd_other _ _ e]; exact h.blb k (by omega)
  · intro k hk
    by_cases e : k = K
    · subst e; simpa using hu
    · rw [upd_other _ _ e]; exact h.ul k (by omega)

/-- The list of clauses has grown: its array, then its slice. -/
theorem PMem.list (h : PMem Φ w st us uv CS cv K cb lb L mv m) {w1 : World} {cv' : Value} {CS' : List Nat} (hg : w.grownBy w1 cv.ownBlock) (ho : w1.ownsRow Φ.B0 50 1 cv' CS'.length (ptrs cb CS')) : PMem Φ (w1.setCell ⟨Φ.p, 1, none⟩ cv') st us uv CS' cv' K cb lb L mv m :=
  have hc := Chg.ofOwn h.cls hg
  have r1 := hc.row h.row (by decide)
  have hd : Chg w1 (w1.setCell ⟨Φ.p, 1, none⟩ cv') (some Φ.p) 88 := Chg.set r1 1 cv'
  ⟨r1.set 1 cv', hd.own (hc.own h.units (by decide)) (by decide), hd.own ho (by decide), fun k hk => hd.clause (hc.clause (h.db k hk) (by decide) (by decide)) (by decide) (by decide), h.cbI, h.lbI, h.bcb, h.blb, h.ul,
    hd.mod (by decide) (hc.mod (by decide) h.mod), (h.below hg (own_le h.cls (Nat.le_refl _))).grown hd.hg (Nat.le_trans (Nat.le_trans Φ.b0 h.bel.size) hg.size) (some_le Φ.bp)⟩

/-- An entry of the list of clauses is overwritten. -/
theorem PMem.put (h : PMem Φ w st us uv CS cv K cb lb L mv m) {g n cap : Nat} (hcv : cv = .slice (some ⟨g, 0, none⟩) n cap) (i k : Nat) : PMem Φ (w.setCell ⟨g, i, none⟩ (.pointer (some ⟨cb k, 0, none⟩))) st us uv (CS.set i k) cv K cb lb L mv m := by
  have ho := h.cls
  have hn : n = CS.length := own_len ho hcv
  subst hcv hn
  have hs := own_set ho i (.pointer (some ⟨cb k, 0, none⟩))
  have hg := grownBy_setCell w ⟨g, i, none⟩ (.pointer (some ⟨cb k, 0, none⟩))
  have hc := Chg.ofOwn ho hg
  refine ⟨hc.row h.row (by decide), hc.own h.units (by decide), ?_, fun k hk => hc.clause (h.db k hk) (by decide) (by decide), h.cbI, h.lbI, h.bcb, h.blb, h.ul, hc.mod (by decide) h.mod, h.below hg (own_le ho (Nat.le_refl _))⟩
  have : ptrs cb (CS.set i k) = (ptrs cb CS).set i (.pointer (some ⟨cb k, 0, none⟩)) := by simp [ptrs, List.map_set]
  rw [this, List.length_set]
  exact hs

/-- The model is laid. -/
theorem PMem.model (h : PMem Φ w st us uv CS cv K cb lb L mv m) {bm : Nat} {m' : List Int} (hb : Φ.B0 ≤ bm) (r : Row w bm 51 (m'.map (Value.int .i64))) (hl : m'.length = 8) :
    PMem Φ (w.setCell ⟨Φ.p, 4, none⟩ (.slice (some ⟨bm, 0, none⟩) 8 8)) st us uv CS cv K cb lb L (.slice (some ⟨bm, 0, none⟩) 8 8) m' :=
  have hc := Chg.set h.row 4 (.slice (some ⟨bm, 0, none⟩) 8 8)
  ⟨h.row.set 4 (.slice (some ⟨bm, 0, none⟩) 8 8), hc.own h.units (by decide), hc.own h.cls (by decide), fun k hk => hc.clause (h.db k hk) (by decide) (by decide), h.cbI, h.lbI, h.bcb, h.blb, h.ul,
    .inr ⟨bm, rfl, hb, hc.row r (by decide), hl⟩, h.below hc.hg (some_le Φ.bp)⟩

theorem PMem.setM (h : PMem Φ w st us uv CS cv K cb lb L mv m) {bm : Nat} (hmv : mv = .slice (some ⟨bm, 0, none⟩) 8 8) (v : Nat) (x : Int) : PMem Φ (w.setCell ⟨bm, v, none⟩ (.int .i64 x)) st us uv CS cv K cb lb L mv (m.set v x) := by
  rcases h.mod with ⟨e, _⟩ | ⟨bm', e, hb, r, hl⟩
  · rw [hmv] at e; cases e
  · rw [hmv] at e
    injection e with e _ _
    injection e with e
    injection e with e
    subst e
    have hc := Chg.set r v (.int .i64 x)
    refine ⟨hc.row h.row (by decide), hc.own h.units (by decide), hc.own h.cls (by decide), fun k hk => hc.clause (h.db k hk) (by decide) (by decide), h.cbI, h.lbI, h.bcb, h.blb, h.ul, .inr ⟨bm, hmv, hb, ?_, by simpa using hl⟩, h.below hc.hg (some_le hb)⟩
    rw [List.map_set]
    exact r.set v _

/-- A clause's literals have changed: in its row, or in its header. -/
theorem PMem.lits (h : PMem Φ w st us uv CS cv K cb lb L mv m) {k b : Nat} (hk : k < K) {l : List Nat} (hb : b = lb k ∨ b = cb k) (hg : w.grownBy w' (some b)) (hl : ClauseAt w (cb k) (lb k) (L k) 0 → ClauseAt w' (cb k) (lb k) l 0) :
    PMem Φ w' st us uv CS cv K cb lb (upd L k l) mv m := by
  have a := h.db k hk
  obtain ⟨ex, a3⟩ := a.row
  obtain ⟨cap, f, _, a2⟩ := a.hdr
  have hB : Φ.B0 ≤ b := by rcases hb with rfl | rfl; exact h.blb k hk; exact h.bcb k hk
  have hrow : ∀ b' e c, Row w b' e c → e ≠ 90 → e ≠ 115 → Row w' b' e c := fun b' e c r h1 h2 => r.kept hg (by
    intro hh; injection hh with hh
    rcases hb with hb | hb
    · rw [hb] at hh; exact a3.ne r (Ne.symm h1) hh
    · rw [hb] at hh; exact a2.ne r (Ne.symm h2) hh)
  refine ⟨hrow _ _ _ h.row (by decide) (by decide), h.units.kept hg ?_, h.cls.kept hg ?_, ?_, h.cbI, h.lbI, h.bcb, h.blb, h.ul, h.mod.imp id fun ⟨bm, x1, x2, x3, x4⟩ => ⟨bm, x1, x2, hrow _ _ _ x3 (by decide) (by decide), x4⟩, h.below hg (some_le hB)⟩
  · refine .inr fun hh => ?_
    rcases hb with hb | hb
    · rw [hb] at hh; exact h.ul k hk hh
    · rw [hb] at hh; exact own_ne h.units a2 (.inl (by decide)) hh
  · refine .inr fun hh => ?_
    rcases hb with hb | hb
    · rw [hb] at hh; exact own_ne h.cls a3 (.inl (by decide)) hh
    · rw [hb] at hh; exact own_ne h.cls a2 (.inl (by decide)) hh
  · intro k' hk'
    by_cases e : k' = k
    · subst e; simpa using hl a
    · rw [upd_other _ _ e]
      have a' := h.db k' hk'
      obtain ⟨ex', a3'⟩ := a'.row
      obtain ⟨cap', f', _, a2'⟩ := a'.hdr
      refine a'.kept hg ?_ ?_
      · intro hh; injection hh with hh
        rcases hb with hb | hb
        · rw [hb] at hh; exact a3.ne a2' (by decide) hh
        · rw [hb] at hh; exact e (h.cbI k' k hk' hk hh.symm)
      · intro hh; injection hh with hh
        rcases hb with hb | hb
        · rw [hb] at hh; exact e (h.lbI k' k hk' hk hh.symm)
        · rw [hb] at hh; exact a2.ne a3' (by decide) hh

theorem PMem.set (h : PMem Φ w st us uv CS cv K cb lb L mv m) {k i y : Nat} (hk : k < K) (hi : i < (L k).length) : PMem Φ (w.setCell ⟨lb k, i, none⟩ (litV y)) st us uv CS cv K cb lb (upd L k ((L k).set i y)) mv m :=
  h.lits hk (.inl rfl) (grownBy_setCell w ⟨lb k, i, none⟩ _) (fun a => a.set i y hi)

theorem PMem.shrink (h : PMem Φ w st us uv CS cv K cb lb L mv m) {k n cap : Nat} (hk : k < K) (hn : n ≤ (L k).length) (hcap : (L k).length ≤ cap) (hw : w.setCell ⟨cb k, 0, none⟩ (.slice (some ⟨lb k, 0, none⟩) n cap) = w') : PMem Φ w' st us uv CS cv K cb lb (upd L k ((L k).take n)) mv m := by
  subst hw
  refine h.lits hk (.inr rfl) (grownBy_setCell w ⟨cb k, 0, none⟩ _) fun a => ?_
  have hcb := a.cb
  obtain ⟨cap', f, e1, e2⟩ := a.hdr
  obtain ⟨ex, e3⟩ := a.row
  refine ⟨⟨cap, f, by simp; omega, ?_⟩, ⟨((L k).drop n).map litV ++ ex, ?_⟩⟩
  · have := e2.set 0 (.slice (some ⟨lb k, 0, none⟩) n cap)
    rw [List.length_take, Nat.min_eq_left hn]
    exact this
  · have := e3.kept (grownBy_setCell w ⟨cb k, 0, none⟩ (.slice (some ⟨lb k, 0, none⟩) n cap)) (by intro hh; injection hh with hh; exact hcb hh)
    rw [← List.append_assoc, ← List.map_append, List.take_append_drop]
    exact this
end
end Go.Proofs.Ytiimddkopiknpaa
