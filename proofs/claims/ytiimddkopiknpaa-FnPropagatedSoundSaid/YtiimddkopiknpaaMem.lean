/- The solver's memory: one picture of all blocks, and what each kind of store does to it. -/
import Derived.Test.YtiimddkopiknpaaLeaf
namespace Go.Proofs.Ytiimddkopiknpaa
open Go.RowKit

/-- A world that has changed in one block at most, of element type e0. -/
structure Chg (w w' : World) (row : Option Nat) (e0 : TypeId) : Prop where
  hg : w.grownBy w' row
  old : ∀ b, row = some b → ∃ c, Row w b e0 c

theorem Chg.row {w w' : World} {row : Option Nat} {e0 : TypeId} (h : Chg w w' row e0) {b : Nat} {e : TypeId} {c : List Value} (r : Row w b e c) (he : e ≠ e0) : Row w' b e c :=
  r.kept h.hg (fun hr => by obtain ⟨c', r'⟩ := h.old b hr; exact r.ne r' he rfl)
theorem Chg.own {w w' : World} {row : Option Nat} {e0 : TypeId} (h : Chg w w' row e0) {B : Nat} {e : TypeId} {size n : Nat} {v : Value} {xs : List Value} (r : w.ownsRow B e size v n xs) (he : e ≠ e0) : w'.ownsRow B e size v n xs := by
  refine r.kept h.hg ?_
  cases row with
  | none => cases v.ownBlock <;> simp
  | some b =>
    obtain ⟨c', r'⟩ := h.old b rfl
    exact .inr (own_ne r r' (.inl he))
theorem Chg.ownNe {w w' : World} {row : Option Nat} {e0 : TypeId} (h : Chg w w' row e0) {B : Nat} {e : TypeId} {size n : Nat} {v : Value} {xs : List Value} (r : w.ownsRow B e size v n xs) (he : ∀ g, v.ownBlock = some g → row ≠ some g) : w'.ownsRow B e size v n xs := by
  refine r.kept h.hg ?_
  cases hv : v.ownBlock with
  | none => exact .inl rfl
  | some g => exact .inr (fun e => he g hv e.symm)
theorem Chg.clause {w w' : World} {row : Option Nat} {e0 : TypeId} (h : Chg w w' row e0) {c b : Nat} {l : List Nat} {x : Int} (r : ClauseAt w c b l x) (h1 : (115 : Nat) ≠ e0) (h2 : (90 : Nat) ≠ e0) : ClauseAt w' c b l x :=
  let ⟨cap, f, a1, a2⟩ := r.hdr; let ⟨ex, a3⟩ := r.row
  ⟨⟨cap, f, a1, h.row a2 h1⟩, ⟨ex, h.row a3 h2⟩⟩
theorem Chg.clauseNe {w w' : World} {row : Option Nat} {e0 : TypeId} (h : Chg w w' row e0) {c b : Nat} {l : List Nat} {x : Int} (r : ClauseAt w c b l x) (h1 : row ≠ some c) (h2 : row ≠ some b) : ClauseAt w' c b l x :=
  r.kept h.hg h1 h2
theorem Chg.set {w : World} {b : Nat} {e : TypeId} {c : List Value} (r : Row w b e c) (i : Nat) (v : Value) : Chg w (w.setCell ⟨b, i, none⟩ v) (some b) e :=
  ⟨grownBy_setCell w ⟨b, i, none⟩ v, fun b' h => by cases h; exact ⟨c, r⟩⟩
theorem Chg.drewN {w w' : World} {row : Option Nat} {e0 : TypeId} (h : Chg w w' row e0) (n : Nat) : Chg w (w'.drewN n) row e0 := ⟨⟨h.hg.os, h.hg.tape, h.hg.output, h.hg.size, h.hg.block⟩, h.old⟩
theorem Chg.ofOwn {w w' : World} {B : Nat} {e : TypeId} {size n : Nat} {v : Value} {xs : List Value} (r : w.ownsRow B e size v n xs) (hg : w.grownBy w' v.ownBlock) : Chg w w' v.ownBlock e := by
  refine ⟨hg, fun b hb => ?_⟩
  rcases r.2 with ⟨rfl, _⟩ | ⟨g, cap, cur, rfl, hB, hh, _⟩
  · simp [Value.ownBlock] at hb
  · simp only [Value.ownBlock, Option.some.injEq] at hb
    subst hb
    exact ⟨cur.toList, by unfold Row; simpa using hh⟩

def upd {α : Type} (f : Nat → α) (z : Nat) (a : α) : Nat → α := fun y => if y = z then a else f y
@[simp] theorem upd_same {α : Type} (f : Nat → α) (z : Nat) (a : α) : upd f z a z = a := by simp [upd]
theorem upd_other {α : Type} (f : Nat → α) {z y : Nat} (a : α) (h : y ≠ z) : upd f z a y = f y := by simp [upd, h]

/-- Where the solver's blocks lie. -/
structure Lay where
  w0 : World
  B0 : Nat
  s : Nat
  bb : Nat
  bh : Nat
  bp : Nat
  ba : Nat
  bm : Nat
  br : Nat
  Bt : Nat
  K : Nat
  cb : Nat → Nat
  lb : Nat → Nat

structure LayOk (Λ : Lay) : Prop where
  cbI : ∀ k k', k < Λ.K → k' < Λ.K → Λ.cb k = Λ.cb k' → k = k'
  lbI : ∀ k k', k < Λ.K → k' < Λ.K → Λ.lb k = Λ.lb k' → k = k'
  lbB : ∀ k, k < Λ.K → Λ.lb k < Λ.Bt
  hb : Λ.bb ≠ Λ.bh
  hK : Λ.K ≤ 20
  b0 : Λ.B0 ≤ Λ.w0.heap.size
  bs : Λ.B0 ≤ Λ.s
  bbm : Λ.B0 ≤ Λ.bm
  bbr : Λ.B0 ≤ Λ.br
  bbh : Λ.B0 ≤ Λ.bh
  bcb : ∀ k, k < Λ.K → Λ.B0 ≤ Λ.cb k
  blb : ∀ k, k < Λ.K → Λ.B0 ≤ Λ.lb k
  bBt : Λ.B0 ≤ Λ.Bt

def wat (Λ : Lay) (e : Nat × Nat) : List Value := [litV e.1, .pointer (some ⟨Λ.cb e.2, 0, none⟩)]
def flat (Λ : Lay) (es : List (Nat × Nat)) : List Value := es.flatMap (wat Λ)

theorem flat_length (Λ : Lay) (es : List (Nat × Nat)) : (flat Λ es).length = es.length * 2 := by
  induction es with
  | nil => rfl
  | cons a l ih => simp only [flat, List.flatMap_cons, List.length_append, List.length_cons] at *; rw [ih]; simp [wat]; omega
theorem flat_append (Λ : Lay) (a b : List (Nat × Nat)) : flat Λ (a ++ b) = flat Λ a ++ flat Λ b := by simp [flat]
theorem flat_get (Λ : Lay) (es : List (Nat × Nat)) (i : Nat) (e : Nat × Nat) (h : es[i]? = some e) :
    (flat Λ es)[i * 2]? = some (litV e.1) ∧ (flat Λ es)[i * 2 + 1]? = some (.pointer (some ⟨Λ.cb e.2, 0, none⟩)) := by
  induction es generalizing i with
  | nil => simp at h
  | cons a l ih =>
    cases i with
    | zero => simp at h; subst h; simp [flat, wat]
    | succ i =>
      have := ih i (by simpa using h)
      simp only [flat, List.flatMap_cons, wat, List.cons_append, List.nil_append] at *
      constructor
      · rw [show (i + 1) * 2 = i * 2 + 1 + 1 from by omega]; simpa using this.1
      · rw [show (i + 1) * 2 + 1 = i * 2 + 1 + 1 + 1 from by omega]; simpa using this.2
theorem flat_set (Λ : Lay) (es : List (Nat × Nat)) (i : Nat) (e : Nat × Nat) :
    flat Λ (es.set i e) = ((flat Λ es).set (i * 2) (litV e.1)).set (i * 2 + 1) (.pointer (some ⟨Λ.cb e.2, 0, none⟩)) := by
  induction es generalizing i with
  | nil => simp [flat]
  | cons a l ih =>
    cases i with
    | zero => simp [flat, wat]
    | succ i =>
      have := ih i
      simp only [flat, List.set_cons_succ, List.flatMap_cons, wat, List.cons_append, List.nil_append] at *
      rw [show (i + 1) * 2 = i * 2 + 1 + 1 from by omega]
      simp only [List.set_cons_succ]
      rw [this]
theorem flat_take (Λ : Lay) (es : List (Nat × Nat)) (i : Nat) : (flat Λ es).take (i * 2) = flat Λ (es.take i) := by
  induction es generalizing i with
  | nil => simp [flat]
  | cons a l ih =>
    cases i with
    | zero => simp [flat]
    | succ i =>
      have := ih i
      simp only [flat, List.take_succ_cons, List.flatMap_cons, wat, List.cons_append, List.nil_append] at *
      rw [show (i + 1) * 2 = i * 2 + 1 + 1 from by omega]
      simp only [List.take_succ_cons]
      rw [this]

/-- What the solver's struct holds, where it is read. -/
structure SRow (Λ : Lay) (C : List Value) (tv : Value) : Prop where
  c8 : C[8]? = some (.slice (some ⟨Λ.bb, 0, none⟩) 16 16)
  c9 : C[9]? = some (.slice (some ⟨Λ.bh, 0, none⟩) 16 16)
  c10 : C[10]? = some (.slice (some ⟨Λ.bp, 0, none⟩) 16 16)
  c11 : C[11]? = some (.slice (some ⟨Λ.ba, 0, none⟩) 16 16)
  c14 : C[14]? = some tv
  c15 : C[15]? = some (.slice (some ⟨Λ.bm, 0, none⟩) 8 8)
  c20 : C[20]? = some (.slice (some ⟨Λ.br, 0, none⟩) 8 8)

structure Mem (Λ : Lay) (w : World) (m : List Int) (tr : List Nat) (tv : Value) (L : Nat → List Nat) (EV : Nat → Value) (E : Nat → List (Nat × Nat)) : Prop where
  solver : ∃ C, Row w Λ.s 78 C ∧ SRow Λ C tv
  model : Row w Λ.bm 51 (m.map (Value.int .i64))
  mlen : m.length = 8
  reason : ∃ rs, Row w Λ.br 50 rs ∧ rs.length = 8
  trail : w.ownsRow Λ.Bt 90 1 tv tr.length (tr.map litV)
  pb : Row w Λ.bp 58 (List.replicate 16 (.slice none 0 0))
  am : Row w Λ.ba 58 (List.replicate 16 (.slice none 0 0))
  db : ∀ k, k < Λ.K → ∃ x, ClauseAt w (Λ.cb k) (Λ.lb k) (L k) x
  hdr : Row w Λ.bh 108 ((List.range 16).map EV)
  hdrB : Row w Λ.bb 108 ((List.range 16).map fun y => EV (y + 16))
  own : ∀ z, z < 32 → w.ownsRow Λ.Bt 110 2 (EV z) (E z).length (flat Λ (E z))
  dis : ∀ z z', z < 32 → z' < 32 → z ≠ z' → ∀ g, (EV z).ownBlock = some g → (EV z').ownBlock ≠ some g
  bel : Below Λ.B0 Λ.w0 w
  bt : Λ.Bt ≤ w.heap.size

section
variable {Λ : Lay} {w w' : World} {m m' : List Int} {tr tr' : List Nat} {tv tv' : Value} {L L' : Nat → List Nat} {EV EV' : Nat → Value} {E E' : Nat → List (Nat × Nat)}

theorem Mem.cell {i : Nat} {v : Value} (h : Mem Λ w m tr tv L EV E) (hi : ∀ C, SRow Λ C tv → C[i]? = some v) : w.cell? ⟨Λ.s, i, none⟩ = some v :=
  let ⟨C, r, hC⟩ := h.solver; r.cell (hi C hC)
theorem Mem.c8 (h : Mem Λ w m tr tv L EV E) : w.cell? ⟨Λ.s, 8, none⟩ = some (.slice (some ⟨Λ.bb, 0, none⟩) 16 16) := h.cell fun _ h => h.c8
theorem Mem.c9 (h : Mem Λ w m tr tv L EV E) : w.cell? ⟨Λ.s, 9, none⟩ = some (.slice (some ⟨Λ.bh, 0, none⟩) 16 16) := h.cell fun _ h => h.c9
theorem Mem.c10 (h : Mem Λ w m tr tv L EV E) : w.cell? ⟨Λ.s, 10, none⟩ = some (.slice (some ⟨Λ.bp, 0, none⟩) 16 16) := h.cell fun _ h => h.c10
theorem Mem.c11 (h : Mem Λ w m tr tv L EV E) : w.cell? ⟨Λ.s, 11, none⟩ = some (.slice (some ⟨Λ.ba, 0, none⟩) 16 16) := h.cell fun _ h => h.c11
theorem Mem.c14 (h : Mem Λ w m tr tv L EV E) : w.cell? ⟨Λ.s, 14, none⟩ = some tv := h.cell fun _ h => h.c14
theorem Mem.c15 (h : Mem Λ w m tr tv L EV E) : w.cell? ⟨Λ.s, 15, none⟩ = some (.slice (some ⟨Λ.bm, 0, none⟩) 8 8) := h.cell fun _ h => h.c15
theorem Mem.c20 (h : Mem Λ w m tr tv L EV E) : w.cell? ⟨Λ.s, 20, none⟩ = some (.slice (some ⟨Λ.br, 0, none⟩) 8 8) := h.cell fun _ h => h.c20
theorem Mem.sf (h : Mem Λ w m tr tv L EV E) (i : Nat) : w.frozen? ⟨Λ.s, i, none⟩ = false := let ⟨_, r, _⟩ := h.solver; r.frozen i
theorem Mem.mc (h : Mem Λ w m tr tv L EV E) {v : Nat} (hv : v < 8) : w.cell? ⟨Λ.bm, v, none⟩ = some (.int .i64 (m.getD v 0)) := by
  refine h.model.cell ?_
  have : v < m.length := by rw [h.mlen]; exact hv
  simp [this]
theorem Mem.mf (h : Mem Λ w m tr tv L EV E) (i : Nat) : w.frozen? ⟨Λ.bm, i, none⟩ = false := h.model.frozen i
theorem Mem.rc (h : Mem Λ w m tr tv L EV E) {v : Nat} (hv : v < 8) : ∃ x, w.cell? ⟨Λ.br, v, none⟩ = some x := by
  obtain ⟨rs, r, hl⟩ := h.reason
  exact ⟨_, r.cell (List.getElem?_eq_getElem (by rw [hl]; exact hv))⟩
theorem Mem.rf (h : Mem Λ w m tr tv L EV E) (i : Nat) : w.frozen? ⟨Λ.br, i, none⟩ = false := let ⟨_, r, _⟩ := h.reason; r.frozen i
theorem Mem.hc (h : Mem Λ w m tr tv L EV E) {y : Nat} (hy : y < 16) : w.cell? ⟨Λ.bh, y, none⟩ = some (EV y) := h.hdr.cell (by simp [hy])
theorem Mem.hf (h : Mem Λ w m tr tv L EV E) (y : Nat) : w.frozen? ⟨Λ.bh, y, none⟩ = false := h.hdr.frozen y
theorem Mem.hBc (h : Mem Λ w m tr tv L EV E) {y : Nat} (hy : y < 16) : w.cell? ⟨Λ.bb, y, none⟩ = some (EV (y + 16)) := h.hdrB.cell (by simp [hy])
theorem Mem.pc (h : Mem Λ w m tr tv L EV E) {y : Nat} (hy : y < 16) : w.cell? ⟨Λ.bp, y, none⟩ = some (.slice none 0 0) := h.pb.cell (by rw [List.getElem?_replicate, if_pos hy])
theorem Mem.ac (h : Mem Λ w m tr tv L EV E) {y : Nat} (hy : y < 16) : w.cell? ⟨Λ.ba, y, none⟩ = some (.slice none 0 0) := h.am.cell (by rw [List.getElem?_replicate, if_pos hy])

/-- The blocks of the solver, of types that are all apart, are different ones. -/
theorem Mem.s_bm (h : Mem Λ w m tr tv L EV E) : Λ.s ≠ Λ.bm := let ⟨_, r, _⟩ := h.solver; r.ne h.model (by decide)
theorem Mem.s_br (h : Mem Λ w m tr tv L EV E) : Λ.s ≠ Λ.br := let ⟨_, r, _⟩ := h.solver; let ⟨_, r', _⟩ := h.reason; r.ne r' (by decide)
theorem Mem.bm_br (h : Mem Λ w m tr tv L EV E) : Λ.bm ≠ Λ.br := let ⟨_, r', _⟩ := h.reason; h.model.ne r' (by decide)
theorem Mem.s_bh (h : Mem Λ w m tr tv L EV E) : Λ.s ≠ Λ.bh := let ⟨_, r, _⟩ := h.solver; r.ne h.hdr (by decide)
theorem Mem.s_cb (h : Mem Λ w m tr tv L EV E) {k : Nat} (hk : k < Λ.K) : Λ.s ≠ Λ.cb k := let ⟨_, r, _⟩ := h.solver; let ⟨_, a⟩ := h.db k hk; let ⟨_, _, _, r'⟩ := a.hdr; r.ne r' (by decide)
theorem Mem.s_lb (h : Mem Λ w m tr tv L EV E) {k : Nat} (hk : k < Λ.K) : Λ.s ≠ Λ.lb k := let ⟨_, r, _⟩ := h.solver; let ⟨_, a⟩ := h.db k hk; let ⟨_, r'⟩ := a.row; r.ne r' (by decide)

theorem Mem.below (ok : LayOk Λ) (h : Mem Λ w m tr tv L EV E) {row : Option Nat} (hg : w.grownBy w' row) (hr : ∀ k, row = some k → Λ.B0 ≤ k) : Below Λ.B0 Λ.w0 w' :=
  h.bel.grown hg (Nat.le_trans ok.b0 h.bel.size) hr
theorem some_le {B b : Nat} (h : B ≤ b) : ∀ k, some b = some k → B ≤ k := fun k e => by cases e; exact h
theorem own_le {B B0 : Nat} {e : TypeId} {size n : Nat} {v : Value} {xs : List Value} (r : w.ownsRow B e size v n xs) (hB : B0 ≤ B) : ∀ k, v.ownBlock = some k → B0 ≤ k := fun k hk => Nat.le_trans hB (r.lt k hk).1

/-- Nothing old has changed. -/
theorem Mem.grown (ok : LayOk Λ) (h : Mem Λ w m tr tv L EV E) (hg : w.grownBy w' none) : Mem Λ w' m tr tv L EV E :=
  have hc : Chg w w' none 0 := ⟨hg, by simp⟩
  { solver := let ⟨C, r, hC⟩ := h.solver; ⟨C, hc.row r (by decide), hC⟩
    model := hc.row h.model (by decide)
    mlen := h.mlen
    reason := let ⟨C, r, hC⟩ := h.reason; ⟨C, hc.row r (by decide), hC⟩
    trail := hc.own h.trail (by decide)
    pb := hc.row h.pb (by decide)
    am := hc.row h.am (by decide)
    db := fun k hk => let ⟨x, a⟩ := h.db k hk; ⟨x, hc.clause a (by decide) (by decide)⟩
    hdr := hc.row h.hdr (by decide)
    hdrB := hc.row h.hdrB (by decide)
    own := fun z hz => hc.own (h.own z hz) (by decide)
    dis := h.dis
    bel := h.below ok hg (by simp)
    bt := Nat.le_trans h.bt hg.size }

theorem grownBy_drewN (w : World) (n : Nat) (row : Option Nat) : w.grownBy (w.drewN n) row := ⟨rfl, rfl, rfl, Nat.le_refl _, fun _ _ _ => rfl⟩
theorem Mem.drewN (ok : LayOk Λ) (h : Mem Λ w m tr tv L EV E) (n : Nat) : Mem Λ (w.drewN n) m tr tv L EV E := h.grown ok (grownBy_drewN w n none)
theorem Mem.drew (ok : LayOk Λ) (h : Mem Λ w m tr tv L EV E) : Mem Λ w.drew m tr tv L EV E := h.drewN ok 1
theorem Mem.alloc (ok : LayOk Λ) (h : Mem Λ w m tr tv L EV E) (o : Obj) : Mem Λ (w.alloc o) m tr tv L EV E := h.grown ok (World.grownBy_alloc w o none)

/-- The model's row has changed. -/
theorem Mem.chModel (ok : LayOk Λ) (h : Mem Λ w m tr tv L EV E) (hg : w.grownBy w' (some Λ.bm)) (r : Row w' Λ.bm 51 (m'.map (Value.int .i64))) (hl : m'.length = 8) : Mem Λ w' m' tr tv L EV E :=
  have hc : Chg w w' (some Λ.bm) 51 := ⟨hg, fun b e => by cases e; exact ⟨_, h.model⟩⟩
  { solver := let ⟨C, r, hC⟩ := h.solver; ⟨C, hc.row r (by decide), hC⟩
    model := r
    mlen := hl
    reason := let ⟨C, r, hC⟩ := h.reason; ⟨C, hc.row r (by decide), hC⟩
    trail := hc.own h.trail (by decide)
    pb := hc.row h.pb (by decide)
    am := hc.row h.am (by decide)
    db := fun k hk => let ⟨x, a⟩ := h.db k hk; ⟨x, hc.clause a (by decide) (by decide)⟩
    hdr := hc.row h.hdr (by decide)
    hdrB := hc.row h.hdrB (by decide)
    own := fun z hz => hc.own (h.own z hz) (by decide)
    dis := h.dis
    bel := h.below ok hg (some_le ok.bbm)
    bt := Nat.le_trans h.bt hg.size }
theorem Mem.setModel (ok : LayOk Λ) (h : Mem Λ w m tr tv L EV E) (v : Nat) (x : Int) : Mem Λ (w.setCell ⟨Λ.bm, v, none⟩ (.int .i64 x)) (m.set v x) tr tv L EV E := by
  refine h.chModel ok (grownBy_setCell w ⟨Λ.bm, v, none⟩ _) ?_ (by simpa using h.mlen)
  rw [List.map_set]
  exact h.model.set v _

theorem Mem.setReason (ok : LayOk Λ) (h : Mem Λ w m tr tv L EV E) (v : Nat) (x : Value) : Mem Λ (w.setCell ⟨Λ.br, v, none⟩ x) m tr tv L EV E :=
  have hc : Chg w (w.setCell ⟨Λ.br, v, none⟩ x) (some Λ.br) 50 := let ⟨_, r, _⟩ := h.reason; Chg.set r v x
  { solver := let ⟨C, r, hC⟩ := h.solver; ⟨C, hc.row r (by decide), hC⟩
    model := hc.row h.model (by decide)
    mlen := h.mlen
    reason := let ⟨C, r, hC⟩ := h.reason; ⟨C.set v x, r.set v x, by simpa using hC⟩
    trail := hc.own h.trail (by decide)
    pb := hc.row h.pb (by decide)
    am := hc.row h.am (by decide)
    db := fun k hk => let ⟨x, a⟩ := h.db k hk; ⟨x, hc.clause a (by decide) (by decide)⟩
    hdr := hc.row h.hdr (by decide)
    hdrB := hc.row h.hdrB (by decide)
    own := fun z hz => hc.own (h.own z hz) (by decide)
    dis := h.dis
    bel := h.below ok hc.hg (some_le ok.bbr)
    bt := Nat.le_trans h.bt hc.hg.size }

/-- A clause's flags have changed. -/
theorem Mem.lock (ok : LayOk Λ) (h : Mem Λ w m tr tv L EV E) {k : Nat} (hk : k < Λ.K) (y : Int) : Mem Λ (w.setCell ⟨Λ.cb k, 1, none⟩ (.int .u32 y)) m tr tv L EV E := by
  obtain ⟨x, a⟩ := h.db k hk
  obtain ⟨cap, f, a1, a2⟩ := a.hdr
  have hc : Chg w (w.setCell ⟨Λ.cb k, 1, none⟩ (.int .u32 y)) (some (Λ.cb k)) 115 := Chg.set a2 1 _
  refine ⟨?_, hc.row h.model (by decide), h.mlen, ?_, hc.own h.trail (by decide), hc.row h.pb (by decide), hc.row h.am (by decide), ?_, hc.row h.hdr (by decide), hc.row h.hdrB (by decide),
    fun z hz => hc.own (h.own z hz) (by decide), h.dis, h.below ok hc.hg (some_le (ok.bcb k hk)), Nat.le_trans h.bt hc.hg.size⟩
  · obtain ⟨C, r, hC⟩ := h.solver; exact ⟨C, hc.row r (by decide), hC⟩
  · obtain ⟨C, r, hC⟩ := h.reason; exact ⟨C, hc.row r (by decide), hC⟩
  · intro k' hk'
    by_cases e : k' = k
    · subst e
      obtain ⟨ex, a3⟩ := a.row
      exact ⟨y, ⟨cap, f, a1, by have := a2.set 1 (.int .u32 y); exact this⟩, ⟨ex, hc.row a3 (by decide)⟩⟩
    · obtain ⟨x', a'⟩ := h.db k' hk'
      refine ⟨x', hc.clauseNe a' ?_ ?_⟩
      · intro hh; injection hh with hh; exact e (ok.cbI k' k hk' hk hh.symm)
      · intro hh; injection hh with hh
        obtain ⟨ex, a3⟩ := a'.row
        exact a2.ne a3 (by decide) hh

/-- A clause's literals have changed. -/
theorem Mem.lits (ok : LayOk Λ) (h : Mem Λ w m tr tv L EV E) {k : Nat} (hk : k < Λ.K) {l : List Nat} (hg : w.grownBy w' (some (Λ.lb k))) (hl : ∀ x, ClauseAt w (Λ.cb k) (Λ.lb k) (L k) x → ClauseAt w' (Λ.cb k) (Λ.lb k) l x) :
    Mem Λ w' m tr tv (upd L k l) EV E := by
  obtain ⟨x, a⟩ := h.db k hk
  obtain ⟨ex, a3⟩ := a.row
  have hc : Chg w w' (some (Λ.lb k)) 90 := ⟨hg, fun b e => by cases e; exact ⟨_, a3⟩⟩
  refine ⟨?_, hc.row h.model (by decide), h.mlen, ?_, hc.ownNe h.trail ?_, hc.row h.pb (by decide), hc.row h.am (by decide), ?_, hc.row h.hdr (by decide), hc.row h.hdrB (by decide),
    fun z hz => hc.own (h.own z hz) (by decide), h.dis, h.below ok hg (some_le (ok.blb k hk)), Nat.le_trans h.bt hg.size⟩
  · obtain ⟨C, r, hC⟩ := h.solver; exact ⟨C, hc.row r (by decide), hC⟩
  · obtain ⟨C, r, hC⟩ := h.reason; exact ⟨C, hc.row r (by decide), hC⟩
  · intro g hg' hh
    injection hh with hh
    have := (h.trail.lt g hg').1
    have := ok.lbB k hk
    omega
  · intro k' hk'
    by_cases e : k' = k
    · subst e
      exact ⟨x, by simpa using hl x a⟩
    · obtain ⟨x', a'⟩ := h.db k' hk'
      refine ⟨x', ?_⟩
      rw [upd_other _ _ e]
      refine hc.clauseNe a' ?_ ?_
      · intro hh; injection hh with hh
        obtain ⟨_, _, _, a2⟩ := a'.hdr
        exact a3.ne a2 (by decide) hh
      · intro hh; injection hh with hh; exact e (ok.lbI k' k hk' hk hh.symm)

/-- The trail has been appended to: the array first, the struct's slice behind it. -/
theorem Mem.chTrail (ok : LayOk Λ) (h : Mem Λ w m tr tv L EV E) {w1 : World} (hg : w.grownBy w1 tv.ownBlock) (ho : w1.ownsRow Λ.Bt 90 1 tv' tr'.length (tr'.map litV)) :
    Mem Λ (w1.setCell ⟨Λ.s, 14, none⟩ tv') m tr' tv' L EV E := by
  have hc : Chg w w1 tv.ownBlock 90 := Chg.ofOwn h.trail hg
  obtain ⟨C, r, hC⟩ := h.solver
  have r1 := hc.row r (by decide)
  have hd : Chg w1 (w1.setCell ⟨Λ.s, 14, none⟩ tv') (some Λ.s) 78 := Chg.set r1 14 tv'
  refine ⟨⟨C.set 14 tv', r1.set 14 tv', ?_⟩, hd.row (hc.row h.model (by decide)) (by decide), h.mlen, ?_, hd.own ho (by decide), hd.row (hc.row h.pb (by decide)) (by decide), hd.row (hc.row h.am (by decide)) (by decide), ?_,
    hd.row (hc.row h.hdr (by decide)) (by decide), hd.row (hc.row h.hdrB (by decide)) (by decide), fun z hz => hd.own (hc.own (h.own z hz) (by decide)) (by decide), h.dis,
    (h.below ok hg (own_le h.trail ok.bBt)).grown hd.hg (Nat.le_trans (Nat.le_trans ok.b0 h.bel.size) hg.size) (some_le ok.bs), Nat.le_trans (Nat.le_trans h.bt hg.size) hd.hg.size⟩
  · have h14 : 14 < C.length := (List.getElem?_eq_some_iff.1 hC.c14).1
    exact ⟨by simpa using hC.c8, by simpa using hC.c9, by simpa using hC.c10, by simpa using hC.c11, by simp [h14], by simpa using hC.c15, by simpa using hC.c20⟩
  · obtain ⟨C, r, hC⟩ := h.reason; exact ⟨C, hd.row (hc.row r (by decide)) (by decide), hC⟩
  · intro k hk
    obtain ⟨x, a⟩ := h.db k hk
    refine ⟨x, hd.clause (hc.clauseNe a ?_ ?_) (by decide) (by decide)⟩
    · intro hh
      obtain ⟨_, _, _, a2⟩ := a.hdr
      exact own_ne h.trail a2 (.inl (by decide)) hh
    · intro hh
      have h1 := (h.trail.lt _ hh).1
      have h2 := ok.lbB k hk
      omega

/-- A list of watchers has changed: its array alone. -/
theorem Mem.chList (ok : LayOk Λ) (h : Mem Λ w m tr tv L EV E) {z : Nat} {es : List (Nat × Nat)} (hg : w.grownBy w' (EV z).ownBlock) (hz : z < 32) (ho : w'.ownsRow Λ.Bt 110 2 (EV z) es.length (flat Λ es)) :
    Mem Λ w' m tr tv L EV (upd E z es) := by
  have hc : Chg w w' (EV z).ownBlock 110 := Chg.ofOwn (h.own z hz) hg
  refine ⟨?_, hc.row h.model (by decide), h.mlen, ?_, hc.own h.trail (by decide), hc.row h.pb (by decide), hc.row h.am (by decide), fun k hk => let ⟨x, a⟩ := h.db k hk; ⟨x, hc.clause a (by decide) (by decide)⟩,
    hc.row h.hdr (by decide), hc.row h.hdrB (by decide), ?_, h.dis, h.below ok hg (own_le (h.own z hz) ok.bBt), Nat.le_trans h.bt hg.size⟩
  · obtain ⟨C, r, hC⟩ := h.solver; exact ⟨C, hc.row r (by decide), hC⟩
  · obtain ⟨C, r, hC⟩ := h.reason; exact ⟨C, hc.row r (by decide), hC⟩
  · intro z' hz'
    by_cases e : z' = z
    · subst e; simpa using ho
    · rw [upd_other _ _ e]
      exact hc.ownNe (h.own z' hz') (fun g hg' hh => h.dis z z' hz hz' (Ne.symm e) g hh hg')

/-- A list of watchers (one of the sixteen of longer clauses) has been appended to, or cut: its array, then its slice. -/
theorem Mem.chWatch (ok : LayOk Λ) (h : Mem Λ w m tr tv L EV E) {y : Nat} {es : List (Nat × Nat)} {w1 : World} {v : Value} (hy : y < 16) (hg : w.grownBy w1 (EV y).ownBlock) (ho : w1.ownsRow Λ.Bt 110 2 v es.length (flat Λ es))
    (hv : v.ownBlock = (EV y).ownBlock ∨ ∃ g, v.ownBlock = some g ∧ w.heap.size ≤ g) :
    Mem Λ (w1.setCell ⟨Λ.bh, y, none⟩ v) m tr tv L (upd EV y v) (upd E y es) := by
  have hc : Chg w w1 (EV y).ownBlock 110 := Chg.ofOwn (h.own y (by omega)) hg
  have r1 := hc.row h.hdr (by decide)
  have hd : Chg w1 (w1.setCell ⟨Λ.bh, y, none⟩ v) (some Λ.bh) 108 := Chg.set r1 y v
  have hfresh : ∀ z, z < 32 → z ≠ y → ∀ g, (EV z).ownBlock = some g → v.ownBlock ≠ some g := by
    intro z hz hzy g hg1 hg2
    rcases hv with hv | ⟨g', hv, hle⟩
    · exact h.dis z y hz (by omega) hzy g hg1 (hv ▸ hg2)
    · rw [hv] at hg2
      injection hg2 with hg2
      have := ((h.own z hz).lt g hg1).2
      omega
  refine ⟨?_, hd.row (hc.row h.model (by decide)) (by decide), h.mlen, ?_, hd.own (hc.own h.trail (by decide)) (by decide), hd.row (hc.row h.pb (by decide)) (by decide), hd.row (hc.row h.am (by decide)) (by decide),
    fun k hk => let ⟨x, a⟩ := h.db k hk; ⟨x, hd.clause (hc.clause a (by decide) (by decide)) (by decide) (by decide)⟩, ?_, ?_, ?_, ?_,
    (h.below ok hg (own_le (h.own y (by omega)) ok.bBt)).grown hd.hg (Nat.le_trans (Nat.le_trans ok.b0 h.bel.size) hg.size) (some_le ok.bbh), Nat.le_trans (Nat.le_trans h.bt hg.size) hd.hg.size⟩
  · obtain ⟨C, r, hC⟩ := h.solver; exact ⟨C, hd.row (hc.row r (by decide)) (by decide), hC⟩
  · obtain ⟨C, r, hC⟩ := h.reason; exact ⟨C, hd.row (hc.row r (by decide)) (by decide), hC⟩
  · have := r1.set y v
    refine (congrArg (Row _ _ _) (List.ext_getElem? fun i => ?_)).mp this
    rw [List.getElem?_set]
    simp only [List.length_map, List.length_range, List.getElem?_map]
    by_cases e : y = i
    · subst e; simp [hy]
    · have e' : ¬ i = y := fun h => e h.symm
      simp only [e, if_false]
      by_cases hi : i < 16 <;> simp [hi, upd_other EV v e']
  · have := (hc.row h.hdrB (by decide)).kept hd.hg (by intro hh; injection hh with hh; exact ok.hb hh.symm)
    refine (congrArg (Row _ _ _) (List.map_congr_left fun i hi => ?_)).mp this
    exact (upd_other EV v (by omega : i + 16 ≠ y)).symm
  · intro z hz
    by_cases e : z = y
    · subst e; simpa using hd.own ho (by decide)
    · rw [upd_other _ _ e, upd_other _ _ e]
      refine hd.own (hc.ownNe (h.own z hz) (fun g hg' hh => h.dis y z (by omega) hz (Ne.symm e) g hh hg')) (by decide)
  · intro z z' hz hz' hne g h1 h2
    by_cases e : z = y
    · subst e
      rw [upd_same] at h1
      rw [upd_other _ _ (Ne.symm hne)] at h2
      exact hfresh z' hz' (Ne.symm hne) g h2 h1
    · rw [upd_other _ _ e] at h1
      by_cases e' : z' = y
      · subst e'
        rw [upd_same] at h2
        exact hfresh z hz e g h1 h2
      · rw [upd_other _ _ e'] at h2
        exact h.dis z z' hz hz' hne g h1 h2
end
end Go.Proofs.Ytiimddkopiknpaa
