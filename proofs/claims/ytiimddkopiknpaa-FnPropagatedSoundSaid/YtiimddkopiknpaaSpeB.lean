/- The specification's side: force: the contract frc_any. -/
import Derived.Test.YtiimddkopiknpaaSpeA
namespace Go.Proofs.Ytiimddkopiknpaa
open Go.RowKit
attribute [local go_sem ↓] Go.wp_at_zero Go.wp_at_succ

/-- A clause is satisfied, or two of its literals are open. -/
def CloS (s : List Int) (c : List Int) : Prop := (∃ x ∈ c, slit s x = 1) ∨ ∃ x ∈ c, ∃ y ∈ c, x ≠ y ∧ slit s x = 0 ∧ slit s y = 0

structure SAbs (N : Nat) (T : Nat → Prop) (s : List Int) : Prop where
  len : s.length = N + 1
  val : ∀ v ∈ s, v = 0 ∨ v = 1 ∨ v = -1
  zero : s.getD 0 0 = 0
  sound : ∀ x, LitOk x → x.natAbs ≤ N → slit s x = 1 → T (enc x)

theorem SAbs.lit {N : Nat} {T : Nat → Prop} {s : List Int} (h : SAbs N T s) (x : Int) : slit s x = 0 ∨ slit s x = 1 ∨ slit s x = -1 := by
  have : s.getD x.natAbs 0 = 0 ∨ s.getD x.natAbs 0 = 1 ∨ s.getD x.natAbs 0 = -1 := by
    rw [List.getD_eq_getElem?_getD]
    by_cases e : x.natAbs < s.length
    · rw [List.getElem?_eq_getElem e, Option.getD_some]
      exact h.val _ (List.getElem_mem _)
    · rw [List.getElem?_eq_none (by omega)]; exact .inl rfl
  unfold slit
  split <;> omega

theorem SAbs.set {N : Nat} {T : Nat → Prop} {s : List Int} (h : SAbs N T s) {x : Int} (hx : LitOk x) (hN : x.natAbs ≤ N) (hT : T (enc x)) : SAbs N T (sset s x) := by
  have hl : x.natAbs < s.length := by rw [h.len]; omega
  refine ⟨by unfold sset; rw [List.length_set]; exact h.len, fun v hv => ?_, ?_, fun y hy hyN h1 => ?_⟩
  · rcases List.mem_or_eq_of_mem_set hv with hv | hv
    · exact h.val v hv
    · rw [hv]; split <;> simp
  · have h0 := h.zero
    unfold sset
    rw [List.getD_eq_getElem?_getD] at h0 ⊢
    rw [List.getElem?_set_ne (by have := hx.1; omega)]
    exact h0
  · rw [slit_sset hl hx.1 hy.1] at h1
    by_cases e : y = x
    · rw [e]; exact hT
    · rw [if_neg e] at h1
      by_cases e2 : y = -x
      · rw [if_pos e2] at h1; omega
      · rw [if_neg e2] at h1; exact h.sound y hy hyN h1

/-- What is true stays so. -/
def SExt (s s' : List Int) : Prop := ∀ y, y ≠ 0 → slit s y = 1 → slit s' y = 1
theorem SExt.refl (s : List Int) : SExt s s := fun _ _ h => h
theorem SExt.trans {a b c : List Int} (h : SExt a b) (h' : SExt b c) : SExt a c := fun y hy hl => h' y hy (h y hy hl)
theorem sext_set {s : List Int} {x : Int} (hl : x.natAbs < s.length) (hx : x ≠ 0) (hn : slit s x ≠ -1) : SExt s (sset s x) := fun y hy h => by
  rw [slit_sset hl hx hy]
  by_cases e : y = x
  · rw [if_pos e]
  · rw [if_neg e]
    by_cases e2 : y = -x
    · rw [e2, slit_neg hx] at h; omega
    · rw [if_neg e2]; exact h
theorem scount_set {s : List Int} {x : Int} (hl : x.natAbs < s.length) (h0 : slit s x = 0) : (sset s x).count 0 + 1 = s.count 0 := by
  have hz : s[x.natAbs] = 0 := by
    have : s.getD x.natAbs 0 = s[x.natAbs] := by rw [List.getD_eq_getElem?_getD, List.getElem?_eq_getElem hl, Option.getD_some]
    unfold slit at h0
    rw [this] at h0
    split at h0 <;> omega
  unfold sset
  rw [List.count_set hl, hz]
  have : 0 < s.count 0 := List.count_pos_iff.2 (List.mem_of_getElem hz)
  have h2 : ¬ ((if x < 0 then (-1 : Int) else 1) == 0) = true := by split <;> simp
  rw [if_neg h2]
  simp
  omega

/-- i literals of c are looked at: so many are open, f the last of them. -/
def FrcR (s : List Int) (c : List Int) (i : Nat) (f : Int) (k : Nat) : Prop :=
  (k = 0 ∧ ∀ y ∈ c.take i, slit s y = -1) ∨ (k = 1 ∧ f ∈ c.take i ∧ slit s f = 0 ∧ ∀ y ∈ c.take i, y ≠ f → slit s y = -1) ∨
    (2 ≤ k ∧ ∃ x ∈ c, ∃ y ∈ c, x ≠ y ∧ slit s x = 0 ∧ slit s y = 0)

theorem mem_take_succ {α : Type} {c : List α} {i : Nat} {x y : α} (hx : c[i]? = some x) (hy : y ∈ c.take (i + 1)) : y ∈ c.take i ∨ y = x := by
  have hlt := (List.getElem?_eq_some_iff.1 hx).1
  rw [List.take_succ_eq_append_getElem hlt, (List.getElem?_eq_some_iff.1 hx).2] at hy
  exact (List.mem_append.1 hy).imp id List.mem_singleton.1
theorem mem_succ_take {α : Type} {c : List α} {i : Nat} {x : α} (hx : c[i]? = some x) : x ∈ c.take (i + 1) ∧ ∀ y ∈ c.take i, y ∈ c.take (i + 1) := by
  have hlt := (List.getElem?_eq_some_iff.1 hx).1
  rw [List.take_succ_eq_append_getElem hlt, (List.getElem?_eq_some_iff.1 hx).2]
  exact ⟨by simp, fun y hy => List.mem_append_left _ hy⟩

theorem FrcR.skip {s c : List Int} {i : Nat} {f : Int} {k : Nat} {x : Int} (h : FrcR s c i f k) (hx : c[i]? = some x) (h1 : slit s x = -1) : FrcR s c (i + 1) f k := by
  rcases h with ⟨e, h⟩ | ⟨e, h2, h3, h⟩ | h
  · exact .inl ⟨e, fun y hy => (mem_take_succ hx hy).elim (h y) (fun e => by rw [e]; exact h1)⟩
  · exact .inr (.inl ⟨e, (mem_succ_take hx).2 f h2, h3, fun y hy hne => (mem_take_succ hx hy).elim (fun h' => h y h' hne) (fun e => by rw [e]; exact h1)⟩)
  · exact .inr (.inr h)
theorem FrcR.first {s c : List Int} {i : Nat} {x : Int} (h : ∀ y ∈ c.take i, slit s y = -1) (hx : c[i]? = some x) (h0 : slit s x = 0) : FrcR s c (i + 1) x 1 :=
  .inr (.inl ⟨rfl, (mem_succ_take hx).1, h0, fun y hy hne => (mem_take_succ hx hy).elim (h y) (fun e => absurd e hne)⟩)

theorem cls_fresh {c : List Int} (hc : ClsOk c) {i : Nat} {x f : Int} (hx : c[i]? = some x) (hf : f ∈ c.take i) : x ≠ f := by
  rintro rfl
  obtain ⟨j, hj, e⟩ := List.getElem_of_mem hf
  rw [List.getElem_take] at e
  have hlt := (List.getElem?_eq_some_iff.1 hx).1
  have hji : j < i := by rw [List.length_take] at hj; omega
  have e2 := (List.getElem?_eq_some_iff.1 hx).2
  have nd := List.pairwise_iff_getElem.1 hc.dv j i (by simp; omega) (by simpa using hlt) hji
  simp only [List.getElem_map] at nd
  rw [e, e2] at nd
  exact nd rfl

def FrcPost (s : List Int) (c : List Int) (g : Nat) (w : World) (e : Ending) (w' : World) : Prop :=
  (e = .returned (.tuple #[.bool false, .bool false]) ∧ w = w' ∧ CloS s c) ∨
  (e = .returned (.tuple #[.bool true, .bool false]) ∧ ∃ x ∈ c, slit s x = 0 ∧ (∀ y ∈ c, y ≠ x → slit s y = -1) ∧ Row w' g 3 ((sset s x).map (Value.int .i64)) ∧ w.grownBy w' (some g)) ∨
  (e = .returned (.tuple #[.bool false, .bool true]) ∧ w = w' ∧ ∀ y ∈ c, slit s y = -1)

set_option maxRecDepth 100000 in
set_option maxHeartbeats 1000000 in
theorem frc_any {N : Nat} {T : Nat → Prop} {s : List Int} {w : World} {g n : Nat} {c : List Int} {v : Value} (hr : Row w g 3 (s.map (Value.int .i64))) (ha : SAbs N T s) (hn : n = N + 1) (hN : N ≤ 8) (hin : RowIn w v c) (hc : ClsOk c) (hcN : ∀ x ∈ c, x.natAbs ≤ N) :
    Calls Try.prog 26 #[.slice (some ⟨g, 0, none⟩) n n, v] w (FrcPost s c g w) := by
  obtain ⟨b, o, C, rfl, hC, hcell⟩ := hin.full hc.ne
  obtain ⟨_, _, e, hC1, hC2, _⟩ := hin
  have hlen : c.length ≤ 9223372036854775806 := by
    have hl : c.length ≤ C := hC
    have h8 := (ha.len)
    have hpig : ∀ d : List Int, (d.map Int.natAbs).Nodup → (∀ x ∈ d, LitOk x) → d.length ≤ 9 := fun d hd hl => by
      have h1 : (d.map Int.natAbs).length ≤ (List.range 9).length := hd.length_le_of_subset fun x hx => by
        obtain ⟨y, hy, rfl⟩ := List.mem_map.1 hx
        have := hl y hy
        unfold LitOk at this
        exact List.mem_range.2 (by omega)
      simpa using h1
    have := hpig c hc.dv hc.rng
    omega
  have HR := Lib.hid hr
  have HA := Lib.hid ha
  have HC := Lib.hid hc
  have HCell := Lib.hid hcell
  have HCN := Lib.hid hcN
  have HNl : n = s.length := by rw [ha.len, hn]
  have HN := Lib.hid HNl
  have hn9 : n ≤ 9 := by omega
  have HNN := Lib.hid hn
  clear hr ha hc hcell hcN hC hC1 hC2 e HNl hn
  go_enter Try.func26, Try.ntmps26
  go_wp2_with fail
  go_loopg [12, 6, 7] (c.length) (fun gk idx fv kv wr => ∃ (i : Nat) (f : Int) (k : Nat), idx = .int .i64 (i : Int) ∧ fv = .int .i64 f ∧ kv = .int .i64 (k : Int) ∧ i + gk = c.length ∧ w = wr ∧ k ≤ i ∧ FrcR s c i f k)
  case atStart => exact ⟨0, 0, 0, rfl, rfl, rfl, by omega, rfl, by omega, .inl ⟨rfl, by simp⟩⟩
  case round =>
    obtain ⟨i, f, k, rfl, rfl, rfl, hgk, rfl, hki, hfr⟩ := hrel
    have HG := Lib.hid hgk
    clear hgk
    by_cases hlt : i < c.length
    · obtain ⟨x, hx⟩ : ∃ x, c[i]? = some x := ⟨_, List.getElem?_eq_getElem hlt⟩
      have c1 := HCell.out i x hx
      have hxm := List.mem_of_getElem? hx
      have hxN := HCN.out x hxm
      have HX := Lib.hid hx
      clear hx
      go_wp2_with fail
      refine (sof_any HR.out HN.out (by have := HNN.out; omega) (by omega) HA.out.val).mono ?_
      rintro e w' ⟨rfl, rfl⟩
      rcases HA.out.lit x with hz | hz | hz
      · rw [hz]
        have HZ := Lib.hid hz
        clear hz
        rcases hfr with ⟨rfl, h⟩ | ⟨rfl, h2, h3, h⟩ | ⟨hk2, h⟩
        · have HH := Lib.hid h
          clear h
          go_wp2_with fail
          go_roundg (gk - 1)
          case measure => have := HG.out; omega
          case rel => exact ⟨i + 1, x, 1, by go_num, rfl, rfl, by have := HG.out; omega, rfl, by omega, FrcR.first HH.out HX.out HZ.out⟩
        · have hne := cls_fresh HC.out HX.out h2
          have hneb : (x == f) = false := by simpa using hne
          have hfin : FrcR s c (i + 1) x 2 := .inr (.inr ⟨Nat.le_refl _, x, hxm, f, List.mem_of_mem_take h2, hne, HZ.out, h3⟩)
          have HH := Lib.hid hfin
          clear h hfin h2 h3
          go_wp2_with fail
          go_roundg (gk - 1)
          case measure => have := HG.out; omega
          case rel => exact ⟨i + 1, x, 2, by go_num, rfl, rfl, by have := HG.out; omega, rfl, by omega, HH.out⟩
        · have hk0 : ((k : Int) == 0) = false := by simp; omega
          have hkw : IntKind.i64.wrap ((k : Int) + 1) = ((k + 1 : Nat) : Int) := by rw [IntWalk.i64_in _ (by omega)]; omega
          have HH := Lib.hid h
          clear h
          by_cases hne : x = f
          · have hneb : (x == f) = true := by simpa using hne
            go_wp2_with fail
            go_roundg (gk - 1)
            case measure => have := HG.out; omega
            case rel => exact ⟨i + 1, f, k, by go_num, rfl, rfl, by have := HG.out; omega, rfl, by omega, .inr (.inr ⟨hk2, HH.out⟩)⟩
          · have hneb : (x == f) = false := by simpa using hne
            go_wp2_with fail
            go_roundg (gk - 1)
            case measure => have := HG.out; omega
            case rel => exact ⟨i + 1, x, k + 1, by go_num, rfl, rfl, by have := HG.out; omega, rfl, by omega, .inr (.inr ⟨by omega, HH.out⟩)⟩
      · rw [hz]
        have HZ := Lib.hid hz
        clear hz hfr
        go_wp2_with fail
        go_ret2
        exact .inl ⟨rfl, rfl, .inl ⟨x, hxm, HZ.out⟩⟩
      · rw [hz]
        have hfin := hfr.skip HX.out hz
        have HH := Lib.hid hfin
        clear hfr hz hfin
        go_wp2_with fail
        go_roundg (gk - 1)
        case measure => have := HG.out; omega
        case rel => exact ⟨i + 1, f, k, by go_num, rfl, rfl, by have := HG.out; omega, rfl, by omega, HH.out⟩
    · have hic : c.take i = c := List.take_of_length_le (by omega)
      unfold FrcR at hfr
      rw [hic] at hfr
      rcases hfr with ⟨rfl, h⟩ | ⟨rfl, h2, h3, h⟩ | ⟨hk2, h⟩
      · have HH := Lib.hid h
        clear h hic
        go_wp2_with fail
        go_ret2
        exact .inr (.inr ⟨rfl, rfl, HH.out⟩)
      · have HH := Lib.hid h
        have hfN := HCN.out f h2
        clear h hic
        go_wp2_with fail
        refine (sset_any HR.out HN.out (x := f) (by have := HNN.out; omega) (by omega)).mono ?_
        rintro e w' ⟨rfl, hr2, hg2⟩
        have H1 := Lib.hid hr2
        have H2 := Lib.hid hg2
        clear hr2 hg2
        go_wp2_with fail
        go_ret2
        exact .inr (.inl ⟨rfl, f, h2, h3, HH.out, H1.out, H2.out⟩)
      · have HH := Lib.hid h
        have hk0 : ((k : Int) == 0) = false := by simp; omega
        have hk1 : ((k : Int) == 1) = false := by simp; omega
        clear h hic
        go_wp2_with fail
        go_ret2
        exact .inl ⟨rfl, rfl, .inr HH.out⟩
end Go.Proofs.Ytiimddkopiknpaa
