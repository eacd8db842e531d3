/- ZZPropagated: what is bound, as numbers: the contract zzp_mem. -/
import Derived.Test.YtiimddkopiknpaaDec
namespace Go.Proofs.Ytiimddkopiknpaa
open Go.RowKit
attribute [local go_sem ↓] Go.wp_at_zero Go.wp_at_succ

/-- The number of a variable's binding. -/
def lit1 (i : Nat) (b : Int) : List Int := if 0 < b then [(i : Int) + 1] else if b < 0 then [-(i : Int) - 1] else []
def outTo (m : List Int) : Nat → List Int
  | 0 => []
  | i + 1 => outTo m i ++ lit1 i (m.getD i 0)
theorem lit1_len (i : Nat) (b : Int) : (lit1 i b).length ≤ 1 := by
  unfold lit1
  split
  · simp
  · split <;> simp
theorem outTo_len (m : List Int) (i : Nat) : (outTo m i).length ≤ i := by
  induction i with
  | zero => simp [outTo]
  | succ i ih => have := lit1_len i (m.getD i 0); simp only [outTo, List.length_append]; omega

def ZPost (B0 : Nat) (w0 : World) (C : List (List Nat)) (T : Nat → Prop) (Bot : Prop) (ds : List Int) (e : Ending) (w : World) : Prop :=
  Below B0 w0 w ∧ ((Bot ∧ ∃ v, e = .returned (.tuple #[v, .bool true])) ∨
  ∃ (v : Value) (m : List Int), e = .returned (.tuple #[v, .bool false]) ∧ w.ownsRow B0 3 1 v (outTo m 8).length ((outTo m 8).map (Value.int .i64)) ∧ m.length = 8 ∧ (∀ l, l < 16 → tru m l → T l) ∧ (∀ d ∈ ds, tru m (enc d)) ∧ ∀ c ∈ C, Clo m c)

set_option maxRecDepth 100000 in
set_option maxHeartbeats 1000000 in
theorem zzp_mem {T : Nat → Prop} {Bot : Prop} {cs : List (List Int)} {ds : List Int} {w : World} {g cap gd dcap : Nat} (hbot : ∀ l, l < 16 → T l → T (neg l) → Bot) (hok : ∀ c ∈ cs, ClsOk c) (hlen : cs.length ≤ 20) (hT : ∀ c ∈ cs, Rules T Bot (c.map enc))
    (hcnf : CnfAt w w.heap.size g cs) (hds : IntsAt w w.heap.size gd ds) (hdl : ds.length ≤ 100) (hd : ∀ d ∈ ds, LitOk d ∧ T (enc d)) :
    Calls Try.prog 17 #[.slice (some ⟨g, 0, none⟩) cs.length cap, .int .i64 8, .slice (some ⟨gd, 0, none⟩) ds.length dcap] w (ZPost w.heap.size w (cs.map (·.map enc)) T Bot ds) := by
  go_enter Try.func17, Try.ntmps17
  go_wp2_with fail
  refine (dec_mem (T := T) (Bot := Bot) hbot hok hlen hT hcnf hds hdl hd).mono ?_
  clear hbot hok hT hcnf hds hd
  rintro e w1 (⟨hb, hbel, lvl, rfl⟩ | ⟨sp, bm, cv, lvl, bad, m, rfl, hmod, hres⟩)
  · have HBel := Lib.hid hbel
    clear hbel
    go_wp2_with fail
    go_ret2
    exact ⟨HBel.out, .inl ⟨hb, _, rfl⟩⟩
  · obtain ⟨f1, f2, f3, f4⟩ := hmod
    obtain ⟨B0, hB0⟩ : ∃ B0, B0 = w.heap.size := ⟨_, rfl⟩
    rw [← hB0] at f4
    have hle : B0 ≤ w.heap.size := by omega
    have HB0 := Lib.hid hB0
    clear hB0
    have H2 := Lib.hid f2
    have H4 := Lib.hid f4
    have HR := Lib.hid hres
    have HLe := Lib.hid hle
    clear f2 f4 hres hle
    go_wp2_with fail
    go_loopg [31, 12] 8 (fun gk idx vv wr => ∃ (i : Nat) (v : Value), idx = .int .i64 (i : Int) ∧ v = vv ∧ i + gk = 8 ∧ Row wr bm 51 (m.map (Value.int .i64)) ∧ Below B0 w wr ∧ wr.ownsRow B0 3 1 v (outTo m i).length ((outTo m i).map (Value.int .i64)))
    case atStart => exact ⟨0, _, rfl, rfl, rfl, H2.out, H4.out, by simp [outTo], .inl ⟨rfl, rfl⟩⟩
    case round =>
      obtain ⟨i, v, rfl, rfl, hgk, hr, hbel, hown⟩ := hrel
      clear H2 H4
      have HG := Lib.hid hgk
      clear hgk
      by_cases hlt : i < 8
      · have c1 : wr.cell? ⟨bm, i, none⟩ = some (.int .i64 (m.getD i 0)) := hr.cell (by simp [f3, hlt])
        have hout : outTo m (i + 1) = outTo m i ++ lit1 i (m.getD i 0) := rfl
        have hol := outTo_len m i
        obtain ⟨i0, hi, hz0, hz1, hz2⟩ := info_parts Try.info3
        have hbt : B0 ≤ wr.heap.size := Nat.le_trans HLe.out hbel.size
        have hl1 : (0 : Int) ≤ (i : Int) := by omega
        have hl2 : (i : Int) < 8 := by omega
        have hrow := hr
        have HRow := Lib.hid hrow
        have HBel := Lib.hid hbel
        have HO := Lib.hid hout
        have HOwn := Lib.hid hown
        generalize m.getD i 0 = b at c1 HO
        clear hr hrow hbel hout hown f1
        have hstep : ∀ (x : Int) (g cap : Nat) (w4 : World), w4.ownsRow B0 3 1 (.slice (some ⟨g, 0, none⟩) ((outTo m i).length + 1) cap) ((outTo m i).length + 1) ((outTo m i).map (Value.int .i64) ++ [.int .i64 x]) →
            (wr.alloc (.cells #[.int .i64 x] 3)).grownBy w4 v.ownBlock → Row w4 bm 51 (m.map (Value.int .i64)) ∧ Below B0 w w4 := fun x g cap w4 h1 h2 => by
          have hc := Chg.ofOwn (HOwn.out.alloc _) h2
          refine ⟨hc.row (HRow.out.alloc _) (by decide), ?_⟩
          exact (HBel.out.grown (World.grownBy_alloc wr _ none) hbt (fun _ h => by cases h)).grown h2 (Nat.le_trans hbt (World.grownBy_alloc wr _ none).size) (own_le HOwn.out (Nat.le_refl _))
        have HStep := Lib.hid hstep
        clear hstep
        have hown := HOwn.out
        by_cases hb1 : 0 < b
        · have hL : lit1 i b = [(i : Int) + 1] := by unfold lit1; rw [if_pos hb1]
          have hw1 : IntKind.i64.wrap ((i : Int) + 1) = (i : Int) + 1 := IntWalk.i64_in _ (by omega)
          rw [hL] at HO
          clear hL
          go_wp2_with (at_builtin; refine wpList_append_lies _ rfl _ _ 23 rfl B0 3 i0 (.int .i64 0) 1 8 Try.underlying23 hi hz0 hz1 hz2 rfl (by decide) _ _ _ rfl (hown.alloc _) ⟨wr.heap.size, 0, none⟩ 1 1 [.int .i64 ((i : Int) + 1)] rfl rfl ?c1 ?c2 (by decide) ?c3 ?c4 ?c5 _ rfl ?_)
          case c1 =>
            intro j u hj
            match j, hj with
            | 0, hj => simp at hj; subst hj; simp [Addr.add]
          case c2 => intro u hu; simp at hu; subst hu; rfl
          case c3 => unfold maxLen; omega
          case c4 => omega
          case c5 => simp; omega
          intro g' cap' w4 hown' hgrow _ _
          obtain ⟨h1, h2⟩ := HStep.out _ _ _ _ hown' hgrow
          have HN := Lib.hid hown'
          have HN1 := Lib.hid h1
          have HN2 := Lib.hid h2
          clear hown' hgrow h1 h2 hown HStep c1 hi hz0 hz1 hz2
          go_wp2_with fail
          go_roundg (gk - 1)
          case measure => have := HG.out; omega
          case rel =>
            refine ⟨i + 1, _, by go_num, rfl, by have := HG.out; omega, HN1.out, HN2.out, ?_⟩
            rw [HO.out]
            simpa using HN.out
        · by_cases hb2 : b < 0
          · have hL : lit1 i b = [-(i : Int) - 1] := by unfold lit1; rw [if_neg hb1, if_pos hb2]
            have hw1 : IntKind.i64.wrap (-(i : Int)) = -(i : Int) := IntWalk.i64_in _ (by omega)
            have hw2 : IntKind.i64.wrap (-(i : Int) - 1) = -(i : Int) - 1 := IntWalk.i64_in _ (by omega)
            rw [hL] at HO
            clear hL
            go_wp2_with (at_builtin; refine wpList_append_lies _ rfl _ _ 23 rfl B0 3 i0 (.int .i64 0) 1 8 Try.underlying23 hi hz0 hz1 hz2 rfl (by decide) _ _ _ rfl (hown.alloc _) ⟨wr.heap.size, 0, none⟩ 1 1 [.int .i64 (-(i : Int) - 1)] rfl rfl ?c1 ?c2 (by decide) ?c3 ?c4 ?c5 _ rfl ?_)
            case c2 => rfl
            case c3 => unfold maxLen; omega
            case c4 => omega
            case c5 => omega
            intro g' cap' w4 hown' hgrow _ _
            obtain ⟨h1, h2⟩ := HStep.out _ _ _ _ hown' hgrow
            have HN := Lib.hid hown'
            have HN1 := Lib.hid h1
            have HN2 := Lib.hid h2
            clear hown' hgrow h1 h2 hown HStep c1 hi hz0 hz1 hz2
            go_wp2_with fail
            go_roundg (gk - 1)
            case measure => have := HG.out; omega
            case rel =>
              refine ⟨i + 1, _, by go_num, rfl, by have := HG.out; omega, HN1.out, HN2.out, ?_⟩
              rw [HO.out]
              simpa using HN.out
          · have hL : lit1 i b = [] := by unfold lit1; rw [if_neg hb1, if_neg hb2]
            rw [hL] at HO
            clear hL hown HStep hi hz0 hz1 hz2
            go_wp2_with fail
            go_roundg (gk - 1)
            case measure => have := HG.out; omega
            case rel =>
              refine ⟨i + 1, _, by go_num, rfl, by have := HG.out; omega, HRow.out, HBel.out, ?_⟩
              rw [HO.out]
              simpa using HOwn.out
      · have hi8 : i = 8 := by have := HG.out; omega
        subst hi8
        have HO := Lib.hid hown
        have HBel := Lib.hid hbel
        clear hown hbel hr
        go_wp2_with fail
        go_ret2
        rw [← HB0.out]
        refine ⟨HBel.out, ?_⟩
        rcases HR.out with ⟨rfl, hb⟩ | ⟨rfl, h1, h2, h3⟩
        · exact .inl ⟨hb, _, rfl⟩
        · exact .inr ⟨_, m, rfl, HO.out, f3, h1, h2, h3⟩
end Go.Proofs.Ytiimddkopiknpaa
