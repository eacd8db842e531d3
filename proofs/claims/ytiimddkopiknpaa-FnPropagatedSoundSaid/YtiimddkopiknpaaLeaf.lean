/- The contracts of the small functions of the solver: literals, and the fields of a clause. -/
import Derived.Test.YtiimddkopiknpaaRows
import Derived.Test.YtiimddkopiknpaaLib
import Derived.WalkLawsBesides
import Derived.Deep.QuietTactic
import Derived.BigQuiet
import Derived.BigRegion
import Derived.Lib.Hide
namespace Go.Proofs.Ytiimddkopiknpaa
open Go.RowKit

/-- The opposite literal. -/
def neg (l : Nat) : Nat := if l % 2 = 0 then l + 1 else l - 1
/-- A literal as a value. -/
def litV (l : Nat) : Value := .int .i32 (l : Int)
/-- A level, signed by a literal. -/
def sgn (l : Nat) (v : Int) : Int := if l % 2 = 0 then v else -v
/-- What litStatus tells of a literal whose variable has the binding x. -/
def stx (l : Nat) (x : Int) : Int := if x = 0 then 0 else if sgn l x > 0 then 1 else 2

theorem neg_lt {l : Nat} (h : l < 16) : neg l < 16 := by unfold neg; split <;> omega
theorem neg_neg (l : Nat) : neg (neg l) = l := by unfold neg; split <;> split <;> omega
theorem neg_ne (l : Nat) : neg l ≠ l := by unfold neg; split <;> omega
theorem neg_var (l : Nat) : neg l / 2 = l / 2 := by unfold neg; split <;> omega
theorem neg_mod (l : Nat) : neg l % 2 = 1 - l % 2 := by unfold neg; split <;> omega

theorem neg_bits : ∀ l : Nat, l < 16 → bits .xor .i32 (l : Int) 1 = ((neg l : Nat) : Int) := by decide

theorem var_any (l : Nat) (w : World) (h : l < 16) :
    Calls Try.prog 44 #[litV l] w fun e w' => e = .returned (.int .i32 ((l / 2 : Nat) : Int)) ∧ w = w' := by
  have hl : (0 : Int) ≤ l := by omega
  unfold litV
  go_enter Try.func44, Try.ntmps44
  go_wp2
  go_ret
  exact ⟨rfl, rfl⟩

theorem neg_any (l : Nat) (w : World) (h : l < 16) :
    Calls Try.prog 58 #[litV l] w fun e w' => e = .returned (litV (neg l)) ∧ w = w' := by
  have hl : (0 : Int) ≤ l := by omega
  unfold litV
  go_enter Try.func58, Try.ntmps58
  go_wp2
  go_ret
  exact ⟨by simp [neg_bits l h], rfl⟩

theorem pos_any (l : Nat) (w : World) (h : l < 16) :
    Calls Try.prog 43 #[litV l] w fun e w' => e = .returned (.bool (decide (l % 2 = 0))) ∧ w = w' := by
  have hl : (0 : Int) ≤ l := by omega
  unfold litV
  go_enter Try.func43, Try.ntmps43
  go_wp2
  go_ret
  refine ⟨?_, rfl⟩
  have : ((l : Int) % 2 == 0) = decide (l % 2 = 0) := by
    rw [Bool.eq_iff_iff]; simp; omega
  simp [this]

theorem toLit_any (x : Int) (w : World) (h1 : -8 ≤ x) (h2 : x ≤ 8) (h0 : x ≠ 0) :
    Calls Try.prog 32 #[.int .i32 x] w fun e w' => e = .returned (litV (if x < 0 then (2 * (-x - 1) + 1).toNat else (2 * (x - 1)).toNat)) ∧ w = w' := by
  by_cases hx : x < 0
  · go_enter Try.func32, Try.ntmps32
    go_wp2
    go_ret
    refine ⟨?_, rfl⟩
    simp [litV]
    omega
  · go_enter Try.func32, Try.ntmps32
    go_wp2
    go_ret
    refine ⟨?_, rfl⟩
    simp [litV]
    omega

set_option maxHeartbeats 400000 in
theorem signed_any (l : Nat) (v : Int) (w : World) (h : l < 16) (hv : 0 ≤ v) (hv2 : v ≤ 1000) :
    Calls Try.prog 45 #[litV l, .int .i64 v] w fun e w' => e = .returned (.int .i64 (sgn l v)) ∧ w = w' := by
  by_cases hp : l % 2 = 0
  all_goals
    have hd : decide (l % 2 = 0) = decide (l % 2 = 0) := rfl
    first | rw [decide_eq_true hp] at hd | rw [decide_eq_false hp] at hd
    go_enter Try.func45, Try.ntmps45
    go_wp2_with (go_at_call 43; refine (pos_any _ _ h).mono ?_; rintro e w' ⟨rfl, rfl⟩)
    go_ret
    exact ⟨by simp [sgn, hp], rfl⟩

set_option maxHeartbeats 400000 in
theorem litStatus_any (s bm : Nat) (l : Nat) (x : Int) (w : World) (h : l < 16)
    (hm : w.cell? ⟨s, 15, none⟩ = some (.slice (some ⟨bm, 0, none⟩) 8 8))
    (hx : w.cell? ⟨bm, l / 2, none⟩ = some (.int .i64 x)) :
    Calls Try.prog 33 #[.pointer (some ⟨s, 0, none⟩), litV l] w fun e w' => e = .returned (.int .u8 (stx l x)) ∧ ∃ n, w' = w.drewN n := by
  have hl : (0 : Int) ≤ l := by omega
  have hl2 : l / 2 < 8 := by omega
  go_enter Try.func33, Try.ntmps33
  go_wp2
  go_quiet ((go_at_call 44; exact Calls.quiet_of_same ((var_any _ _ h).mono fun e w' h => ⟨h.1, h.2.symm⟩)))
  by_cases h0 : x = 0
  · subst h0
    go_wp2
    go_ret
    exact ⟨by simp [stx], nq, rfl⟩
  · have g0 : (x == 0) = false := by simpa using h0
    by_cases hs : 0 < sgn l x
    · have e1 : (decide (0 < x) == decide (l % 2 = 0)) = true := by
        unfold sgn at hs; split at hs <;> simp [*] <;> omega
      go_wp2_with (go_at_call 43; refine (pos_any _ _ h).mono ?_; rintro e w' ⟨rfl, rfl⟩)
      go_ret
      exact ⟨by simp [stx, h0, hs], nq, rfl⟩
    · have e1 : (decide (0 < x) == decide (l % 2 = 0)) = false := by
        unfold sgn at hs; split at hs <;> simp [*] <;> omega
      go_wp2_with (go_at_call 43; refine (pos_any _ _ h).mono ?_; rintro e w' ⟨rfl, rfl⟩)
      go_ret
      exact ⟨by simp [stx, h0, hs], nq, rfl⟩


/-- A clause in memory: its struct in block c, its literals l in block b, its flags x. -/
structure ClauseAt (w : World) (c b : Nat) (l : List Nat) (x : Int) : Prop where
  hdr : ∃ cap f, l.length ≤ cap ∧ Row w c 115 [.slice (some ⟨b, 0, none⟩) l.length cap, .int .u32 x, .float .f32 f, .pointer none]
  row : ∃ ex, Row w b 90 (l.map litV ++ ex)

theorem ClauseAt.c0 {w : World} {c b : Nat} {l : List Nat} {x : Int} (h : ClauseAt w c b l x) : ∃ cap, l.length ≤ cap ∧ w.cell? ⟨c, 0, none⟩ = some (.slice (some ⟨b, 0, none⟩) l.length cap) :=
  let ⟨cap, _, h1, h2⟩ := h.hdr; ⟨cap, h1, h2.cell rfl⟩
theorem ClauseAt.c1 {w : World} {c b : Nat} {l : List Nat} {x : Int} (h : ClauseAt w c b l x) : w.cell? ⟨c, 1, none⟩ = some (.int .u32 x) :=
  let ⟨_, _, _, h2⟩ := h.hdr; h2.cell rfl
theorem ClauseAt.c3 {w : World} {c b : Nat} {l : List Nat} {x : Int} (h : ClauseAt w c b l x) : w.cell? ⟨c, 3, none⟩ = some (.pointer none) :=
  let ⟨_, _, _, h2⟩ := h.hdr; h2.cell rfl
theorem ClauseAt.cf {w : World} {c b : Nat} {l : List Nat} {x : Int} (h : ClauseAt w c b l x) (i : Nat) : w.frozen? ⟨c, i, none⟩ = false :=
  let ⟨_, _, _, h2⟩ := h.hdr; h2.frozen i
theorem ClauseAt.lit {w : World} {c b : Nat} {l : List Nat} {x : Int} (h : ClauseAt w c b l x) {i y : Nat} (hi : l[i]? = some y) : w.cell? ⟨b, i, none⟩ = some (litV y) := by
  obtain ⟨ex, hr⟩ := h.row
  refine hr.cell ?_
  have hlt : i < l.length := (List.getElem?_eq_some_iff.1 hi).1
  rw [List.getElem?_append_left (by simpa using hlt)]
  simp [hi]
theorem ClauseAt.lf {w : World} {c b : Nat} {l : List Nat} {x : Int} (h : ClauseAt w c b l x) (i : Nat) : w.frozen? ⟨b, i, none⟩ = false :=
  let ⟨_, hr⟩ := h.row; hr.frozen i
theorem ClauseAt.cb {w : World} {c b : Nat} {l : List Nat} {x : Int} (h : ClauseAt w c b l x) : c ≠ b :=
  let ⟨_, _, _, h2⟩ := h.hdr; let ⟨_, h3⟩ := h.row; h2.ne h3 (by decide)
theorem ClauseAt.drewN {w : World} {c b : Nat} {l : List Nat} {x : Int} (h : ClauseAt w c b l x) (n : Nat) : ClauseAt (w.drewN n) c b l x := ⟨h.hdr, h.row⟩
theorem ClauseAt.kept {w w' : World} {row : Option Nat} {c b : Nat} {l : List Nat} {x : Int} (h : ClauseAt w c b l x) (hg : w.grownBy w' row) (h1 : row ≠ some c) (h2 : row ≠ some b) : ClauseAt w' c b l x :=
  let ⟨cap, f, e1, e2⟩ := h.hdr; let ⟨ex, e3⟩ := h.row; ⟨⟨cap, f, e1, e2.kept hg h1⟩, ⟨ex, e3.kept hg h2⟩⟩
/-- A literal is set. -/
theorem ClauseAt.set {w : World} {c b : Nat} {l : List Nat} {x : Int} (h : ClauseAt w c b l x) (i y : Nat) (hi : i < l.length) : ClauseAt (w.setCell ⟨b, i, none⟩ (litV y)) c b (l.set i y) x := by
  have hcb := h.cb
  obtain ⟨cap, f, e1, e2⟩ := h.hdr
  obtain ⟨ex, e3⟩ := h.row
  refine ⟨⟨cap, f, by simpa using e1, ?_⟩, ⟨ex, ?_⟩⟩
  · rw [List.length_set]
    exact e2.kept (grownBy_setCell w ⟨b, i, none⟩ (litV y)) (by simpa using fun h => hcb h.symm)
  · have := e3.set i (litV y)
    rw [List.set_append_left _ _ (by simpa using hi)] at this
    rw [List.map_set]
    exact this

theorem len_any (c b : Nat) (l : List Nat) (x : Int) (w : World) (h : ClauseAt w c b l x) :
    Calls Try.prog 56 #[.pointer (some ⟨c, 0, none⟩)] w fun e w' => e = .returned (.int .i64 (l.length : Int)) ∧ w = w' := by
  obtain ⟨cap, _, h0⟩ := h.c0
  go_enter Try.func56, Try.ntmps56
  go_wp2
  go_ret
  exact ⟨rfl, rfl⟩

theorem get_any (c b : Nat) (l : List Nat) (x : Int) (w : World) (h : ClauseAt w c b l x) (i y : Nat) (hi : l[i]? = some y) :
    Calls Try.prog 57 #[.pointer (some ⟨c, 0, none⟩), .int .i64 (i : Int)] w fun e w' => e = .returned (litV y) ∧ w = w' := by
  obtain ⟨cap, _, h0⟩ := h.c0
  have h1 := h.lit hi
  have hlt : i < l.length := (List.getElem?_eq_some_iff.1 hi).1
  clear hi
  go_enter Try.func57, Try.ntmps57
  go_wp2
  go_ret
  exact ⟨rfl, rfl⟩

theorem first_any (c b : Nat) (l : List Nat) (x : Int) (w : World) (h : ClauseAt w c b l x) (y : Nat) (hi : l[0]? = some y) :
    Calls Try.prog 61 #[.pointer (some ⟨c, 0, none⟩)] w fun e w' => e = .returned (litV y) ∧ w = w' := by
  obtain ⟨cap, _, h0⟩ := h.c0
  have h1 := h.lit hi
  have hlt : 0 < l.length := (List.getElem?_eq_some_iff.1 hi).1
  clear hi
  go_enter Try.func61, Try.ntmps61
  go_wp2
  go_ret
  exact ⟨rfl, rfl⟩

theorem second_any (c b : Nat) (l : List Nat) (x : Int) (w : World) (h : ClauseAt w c b l x) (y : Nat) (hi : l[1]? = some y) :
    Calls Try.prog 67 #[.pointer (some ⟨c, 0, none⟩)] w fun e w' => e = .returned (litV y) ∧ w = w' := by
  obtain ⟨cap, _, h0⟩ := h.c0
  have h1 := h.lit hi
  have hlt : 1 < l.length := (List.getElem?_eq_some_iff.1 hi).1
  clear hi
  go_enter Try.func67, Try.ntmps67
  go_wp2
  go_ret
  exact ⟨rfl, rfl⟩

theorem pseudo_any (c b : Nat) (l : List Nat) (x : Int) (w : World) (h : ClauseAt w c b l x) :
    Calls Try.prog 52 #[.pointer (some ⟨c, 0, none⟩)] w fun e w' => e = .returned (.bool false) ∧ w = w' := by
  have h3 := h.c3
  go_enter Try.func52, Try.ntmps52
  go_wp2
  go_ret
  exact ⟨rfl, rfl⟩

theorem learned_any (c b : Nat) (l : List Nat) (w : World) (h : ClauseAt w c b l 0) :
    Calls Try.prog 76 #[.pointer (some ⟨c, 0, none⟩)] w fun e w' => e = .returned (.bool false) ∧ w = w' := by
  have h3 := h.c1
  go_enter Try.func76, Try.ntmps76
  go_wp2
  go_ret
  exact ⟨rfl, rfl⟩

theorem card_eq : bits BinOp.and IntKind.u32 0 1073741823 = 0 := by decide

theorem card_any (c b : Nat) (l : List Nat) (w : World) (h : ClauseAt w c b l 0) :
    Calls Try.prog 65 #[.pointer (some ⟨c, 0, none⟩)] w fun e w' => e = .returned (.int .i64 1) ∧ w = w' := by
  have h3 := h.c1
  go_enter Try.func65, Try.ntmps65
  go_wp2_with (go_at_call 76; refine (learned_any _ _ _ _ h).mono ?_; rintro e w' ⟨rfl, rfl⟩)
  go_ret
  exact ⟨by simp [card_eq, wrap64], rfl⟩

theorem lock_any (c b : Nat) (l : List Nat) (x : Int) (w : World) (h : ClauseAt w c b l x) :
    Calls Try.prog 79 #[.pointer (some ⟨c, 0, none⟩)] w fun e w' => e = .returned (.tuple #[]) ∧ w.setCell ⟨c, 1, none⟩ (.int .u32 (bits .or .u32 x 1073741824)) = w' := by
  have h1 := h.c1
  have hf := h.cf 1
  go_enter Try.func79, Try.ntmps79
  go_wp2
  go_end0
  exact ⟨rfl, rfl⟩

theorem setLit_any (c b : Nat) (l : List Nat) (x : Int) (w : World) (h : ClauseAt w c b l x) (i y : Nat) (hi : i < l.length) :
    Calls Try.prog 59 #[.pointer (some ⟨c, 0, none⟩), .int .i64 (i : Int), litV y] w fun e w' => e = .returned (.tuple #[]) ∧ w.setCell ⟨b, i, none⟩ (litV y) = w' := by
  obtain ⟨cap, _, h0⟩ := h.c0
  obtain ⟨z, hz⟩ : ∃ z, l[i]? = some z := ⟨_, List.getElem?_eq_getElem hi⟩
  have h1 := h.lit hz
  have hf := h.lf i
  clear hz
  unfold litV at *
  go_enter Try.func59, Try.ntmps59
  go_wp2
  go_end0
  exact ⟨rfl, rfl⟩

set_option maxHeartbeats 400000 in
theorem shrink_any (c b : Nat) (l : List Nat) (x : Int) (w : World) (h : ClauseAt w c b l x) (n : Nat) (hn : n ≤ l.length) :
    Calls Try.prog 62 #[.pointer (some ⟨c, 0, none⟩), .int .i64 (n : Int)] w fun e w' => e = .returned (.tuple #[]) ∧ ∃ cap, l.length ≤ cap ∧ w.cell? ⟨c, 0, none⟩ = some (.slice (some ⟨b, 0, none⟩) l.length cap) ∧ w.setCell ⟨c, 0, none⟩ (.slice (some ⟨b, 0, none⟩) n cap) = w' := by
  obtain ⟨cap, hcap, h0⟩ := h.c0
  have hf := h.cf 0
  have h3 := h.c3
  have hb1 : (0 : Int) ≤ (n : Int) := by omega
  have hb2 : (n : Int) ≤ (cap : Int) := by omega
  go_enter Try.func62, Try.ntmps62
  go_wp2
  go_end0
  exact ⟨rfl, cap, hcap, h0, rfl⟩

set_option maxRecDepth 100000 in
set_option maxHeartbeats 1000000 in
theorem swap_any (c b : Nat) (l : List Nat) (x : Int) (w : World) (h : ClauseAt w c b l x) (i j y z : Nat) (hi : l[i]? = some y) (hj : l[j]? = some z) :
    Calls Try.prog 69 #[.pointer (some ⟨c, 0, none⟩), .int .i64 (i : Int), .int .i64 (j : Int)] w fun e w' => e = .returned (.tuple #[]) ∧ ∃ n, w' = (((w.setCell ⟨b, i, none⟩ (litV z)).setCell ⟨b, j, none⟩ (litV y))).drewN n := by
  obtain ⟨cap, _, h0⟩ := h.c0
  have h1 := h.lit hi
  have h2 := h.lit hj
  have hf1 := h.lf i
  have hf2 := h.lf j
  have h3 := h.c3
  have hcb := h.cb
  have hlt : i < l.length := (List.getElem?_eq_some_iff.1 hi).1
  have hlt2 : j < l.length := (List.getElem?_eq_some_iff.1 hj).1
  obtain ⟨v', hv'⟩ := cell?_setCell_some (w := w) (p := ⟨b, i, none⟩) (x := litV z) h2
  clear hi hj
  unfold litV at *
  go_enter Try.func69, Try.ntmps69
  go_wp2
  go_region
  go_wp2
  go_end0
  exact ⟨rfl, 1, rfl⟩

end Go.Proofs.Ytiimddkopiknpaa
