/- The specification's side: Propagated: the contract spe_any. -/
import Derived.Test.YtiimddkopiknpaaSpeC
namespace Go.Proofs.Ytiimddkopiknpaa
open Go.RowKit
attribute [local go_sem ↓] Go.wp_at_zero Go.wp_at_succ

def sOut (s : List Int) : Nat → List Int
  | 0 => []
  | i + 1 => sOut s i ++ if s.getD i 0 = 0 then [] else [(i : Int) * s.getD i 0]
theorem sOut_len (s : List Int) (i : Nat) : (sOut s i).length ≤ i := by
  induction i with
  | zero => simp [sOut]
  | succ i ih =>
    simp only [sOut, List.length_append]
    split <;> simp <;> omega

def SPost (T : Nat → Prop) (Bot : Prop) (cs : List (List Int)) (ds : List Int) (w : World) (e : Ending) (w' : World) : Prop :=
  Below w.heap.size w w' ∧ ((Bot ∧ ∃ v, e = .returned (.tuple #[v, .bool true])) ∨
    ∃ (v : Value) (N : Nat) (s : List Int), e = .returned (.tuple #[v, .bool false]) ∧ w'.ownsRow w.heap.size 3 1 v (sOut s (N + 1)).length ((sOut s (N + 1)).map (Value.int .i64)) ∧ N ≤ 8 ∧ SAbs N T s ∧
      (∀ c ∈ cs, ∀ x ∈ c, x.natAbs ≤ N) ∧ (∀ d ∈ ds, d.natAbs ≤ N ∧ slit s d = 1) ∧ ∀ c ∈ cs, CloS s c)

set_option maxRecDepth 100000 in
set_option maxHeartbeats 1000000 in
theorem spe_any {T : Nat → Prop} {Bot : Prop} {cs : List (List Int)} {ds : List Int} {v dv : Value} {w : World} (hbot : ∀ l, l < 16 → T l → T (neg l) → Bot) (hok : ∀ c ∈ cs, ClsOk c) (hlen : cs.length ≤ 20) (hne : cs ≠ [])
    (hT : ∀ c ∈ cs, Rules T Bot (c.map enc)) (hin : MatIn w v cs) (hds : RowIn w dv ds) (hdl : ds.length ≤ 8) (hd : ∀ d ∈ ds, LitOk d ∧ T (enc d)) :
    Calls Try.prog 11 #[v, dv] w (SPost T Bot cs ds w) := by
  go_enter Try.func11, Try.ntmps11
  go_wp2_with fail
  refine (stand_any (Bot := Bot) hbot hok hlen hne hT hin hds hdl hd).mono ?_
  clear hbot hok hne hT hin hds hd
  rintro e w1 ⟨hb, ⟨hbo, rfl⟩ | ⟨g, N, s, rfl, hr, hg, hN, ha, h1, h2, h3⟩⟩
  · have HB := Lib.hid hb
    clear hb
    go_wp2_with fail
    go_ret2
    exact ⟨HB.out, .inl ⟨hbo, _, rfl⟩⟩
  · have hlt := hr.lt
    have hown : (w1.alloc (.cells #[] 3)).ownsRow w.heap.size 3 1 (.slice (some ⟨w1.heap.size, 0, none⟩) 0 0) 0 [] := World.ownsRow_lit w1 #[] 0 hb.size (by unfold maxLen; omega) rfl
    have hr2 := hr.alloc (.cells #[] 3)
    have hb2 := hb.alloc hb.size (.cells #[] 3)
    have H1 := Lib.hid hr2
    have H2 := Lib.hid hown
    have H3 := Lib.hid hb2
    have HA := Lib.hid ha
    have HX := Lib.hid (And.intro h1 (And.intro h2 h3))
    have hlt2 : g < w1.heap.size := hlt
    have HLt := Lib.hid hlt2
    clear hr hb hown hr2 hb2 ha h1 h2 h3 hlt hlt2
    go_wp2_with fail
    go_loopg [21, 8] (N + 1) (fun gk idx vv wr => ∃ (i : Nat) (v : Value), idx = .int .i64 (i : Int) ∧ v = vv ∧ i + gk = N + 1 ∧ Row wr g 3 (s.map (Value.int .i64)) ∧ Below w.heap.size w wr ∧ wr.ownsRow w.heap.size 3 1 v (sOut s i).length ((sOut s i).map (Value.int .i64)) ∧ v.ownBlock ≠ some g)
    case atStart => exact ⟨0, _, rfl, rfl, by omega, H1.out, H3.out, H2.out, fun h => by
    injection h with h
    have h : w1.heap.size = g := h
    have := HLt.out
    omega⟩
    case round =>
      obtain ⟨i, v, rfl, rfl, hgk, hr, hbel, hown, hvb⟩ := hrel
      clear H1 H2 H3
      have HG := Lib.hid hgk
      clear hgk
      by_cases hlt : i < N + 1
      · have hlen := HA.out.len
        have c1 : wr.cell? ⟨g, i, none⟩ = some (.int .i64 (s.getD i 0)) := hr.cell (by simp [hlen, hlt])
        have hval : s.getD i 0 = 0 ∨ s.getD i 0 = 1 ∨ s.getD i 0 = -1 := by
          rw [List.getD_eq_getElem?_getD, List.getElem?_eq_getElem (by omega), Option.getD_some]
          exact HA.out.val _ (List.getElem_mem _)
        have hout : sOut s (i + 1) = sOut s i ++ if s.getD i 0 = 0 then [] else [(i : Int) * s.getD i 0] := rfl
        have hol := sOut_len s i
        obtain ⟨i0, hi, hz0, hz1, hz2⟩ := info_parts Try.info3
        have hbt : w.heap.size ≤ wr.heap.size := hbel.size
        have hgl := hr.lt
        have HRow := Lib.hid hr
        have HBel := Lib.hid hbel
        have HO := Lib.hid hout
        have HOwn := Lib.hid hown
        have HV := Lib.hid hvb
        have HGl := Lib.hid hgl
        generalize s.getD i 0 = z at c1 HO hval
        clear hr hbel hout hvb hgl hlen
        by_cases hz : z = 0
        · subst hz
          have hout2 := HO.out
          rw [if_pos rfl, List.append_nil] at hout2
          have HO2 := Lib.hid hout2
          clear hout2 hown
          go_wp2_with fail
          go_roundg (gk - 1)
          case measure => have := HG.out; omega
          case rel =>
            refine ⟨i + 1, _, by go_num, rfl, by have := HG.out; omega, HRow.out, HBel.out, ?_, HV.out⟩
            rw [HO2.out]
            exact HOwn.out
        · have hzb : (z == 0) = false := by simpa using hz
          have hi9 : i ≤ 8 := by omega
          have hzw : wrap64 ((i : Int) * z) = (i : Int) * z := IntWalk.wrap64_in _ (by
            rcases hval with h | h | h
            · exact absurd h hz
            · rw [h]; omega
            · rw [h]; omega)
          have hout2 := HO.out
          rw [if_neg hz] at hout2
          have HO2 := Lib.hid hout2
          clear hout2 HO
          obtain ⟨y, hy⟩ : ∃ y, y = (i : Int) * z := ⟨_, rfl⟩
          have hzy : wrap64 ((i : Int) * z) = y := hzw.trans hy.symm
          rw [← hy] at HO2
          clear hzw hy
          go_wp2_with (at_builtin; refine wpList_append_lies _ rfl _ _ 23 rfl w.heap.size 3 i0 (.int .i64 0) 1 8 Try.underlying23 hi hz0 hz1 hz2 rfl (by decide) _ _ _ rfl (hown.alloc _) ⟨wr.heap.size, 0, none⟩ 1 1 [.int .i64 y] rfl rfl ?c1 ?c2 (by decide) ?c3 ?c4 ?c5 _ rfl ?_)
          case c1 =>
            intro j u hj
            match j, hj with
            | 0, hj => simp at hj; subst hj; simp [Addr.add]
          case c2 => intro u hu; simp at hu; subst hu; rfl
          case c3 => unfold maxLen; omega
          case c4 => omega
          case c5 => simp; omega
          intro g' cap' w4 hown' hgrow hat _
          have hr4 := (HRow.out.alloc (.cells #[.int .i64 y] 3)).kept hgrow HV.out
          have hb4 := (HBel.out.grown (World.grownBy_alloc wr (.cells #[.int .i64 y] 3) none) hbt (fun _ h => by cases h)).grown hgrow (Nat.le_trans hbt (World.grownBy_alloc wr _ none).size) (own_le HOwn.out (Nat.le_refl _))
          have hv4 : (Value.slice (some ⟨g', 0, none⟩) ((sOut s i).length + 1) cap').ownBlock ≠ some g := fun h => by
            injection h with h
            have h : g' = g := h
            rcases hat with h5 | h5
            · exact HV.out (by rw [h5, h])
            · have h6 : g' = wr.heap.size + 1 := h5
              have h8 := HGl.out
              omega
          have HN := Lib.hid hown'
          have HN1 := Lib.hid hr4
          have HN2 := Lib.hid hb4
          have HN3 := Lib.hid hv4
          clear hown' hgrow hr4 hb4 hv4 hown c1 hi hz0 hz1 hz2 hat
          go_wp2_with fail
          go_roundg (gk - 1)
          case measure => have := HG.out; omega
          case rel =>
            refine ⟨i + 1, _, by go_num, rfl, by have := HG.out; omega, HN1.out, HN2.out, ?_, HN3.out⟩
            rw [HO2.out]
            simpa using HN.out
      · have hiN : i = N + 1 := by have := HG.out; omega
        subst hiN
        have HO := Lib.hid hown
        have HBel := Lib.hid hbel
        clear hown hbel hr hvb
        go_wp2_with fail
        go_ret2
        exact ⟨HBel.out, .inr ⟨_, N, s, rfl, HO.out, hN, HA.out, HX.out⟩⟩
end Go.Proofs.Ytiimddkopiknpaa
