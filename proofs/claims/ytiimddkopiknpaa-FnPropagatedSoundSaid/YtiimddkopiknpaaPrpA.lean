/- Plain laws of the loop over the binary clauses in propagate. -/
import Derived.Test.YtiimddkopiknpaaSpcA
namespace Go.Proofs.Ytiimddkopiknpaa
open Go.RowKit
section
variable {Λ : Lay} {w w' : World} {m m' : List Int} {tr tr' : List Nat} {tv tv' : Value} {L L' : Nat → List Nat} {EV EV' : Nat → Value} {E E' : Nat → List (Nat × Nat)}

/-- What is still to be looked at: the binary clauses from the i-th on; all longer ones. -/
def Rb (L : Nat → List Nat) (P : List (Nat × Nat)) (i k : Nat) : Prop := (∃ o, (o, k) ∈ P.drop i) ∨ 3 ≤ (L k).length

def BinR (Λ : Lay) (T : Thy) (Bot : Prop) (lit ptr : Nat) (m0 : List Int) (tr0 : List Nat) (L : Nat → List Nat) (EV : Nat → Value) (E : Nat → List (Nat × Nat)) (i : Nat) (w : World) : Prop :=
  ∃ m tr tv, Mem Λ w m tr tv L EV E ∧ Abs Λ.K T Bot m tr L E ∧ Pen Λ.K m L (pd (tr.drop (ptr + 1)) lit (Rb L (E (lit + 16)) i)) ∧ Ext m0 m ∧ ∃ x, tr = tr0 ++ x

theorem bin_begin {T : Thy} {Bot : Prop} {K lit ptr : Nat} (ha : Abs K T Bot m tr L E) (hp : Pen K m L (qu (tr.drop ptr))) (hl : tr[ptr]? = some lit) : Pen K m L (pd (tr.drop (ptr + 1)) lit (Rb L (E (lit + 16)) 0)) := by
  refine (hp.begin hl).next fun k hk _ hw _ => ?_
  by_cases h3 : 3 ≤ (L k).length
  · exact .inr h3
  · have h2 := ha.len2 k hk
    have := ha.binW k hk (by omega) _ hw
    rw [neg_neg] at this
    exact .inl this

theorem bin_next {K lit i : Nat} {rest : List Nat} {e : Nat × Nat} (hp : Pen K m L (pd rest lit (Rb L (E (lit + 16)) i))) (he : (E (lit + 16))[i]? = some e) (hs : SatC m (L e.2)) :
    Pen K m L (pd rest lit (Rb L (E (lit + 16)) (i + 1))) := by
  have hlt := (List.getElem?_eq_some_iff.1 he).1
  refine hp.next fun k _ hns _ hR => ?_
  rcases hR with ⟨o, ho⟩ | h3
  · rw [List.drop_eq_getElem_cons hlt, (List.getElem?_eq_some_iff.1 he).2] at ho
    rcases List.mem_cons.1 ho with e1 | e1
    · rw [← e1] at hs; exact absurd hs hns
    · exact .inl ⟨o, e1⟩
  · exact .inr h3

theorem bin_sat {T : Thy} {Bot : Prop} {lit ptr i : Nat} {m0 : List Int} {tr0 : List Nat} {e : Nat × Nat} (hlit : lit < 16) (hm : Mem Λ w m tr tv L EV E) (ha : Abs Λ.K T Bot m tr L E)
    (hp : Pen Λ.K m L (pd (tr.drop (ptr + 1)) lit (Rb L (E (lit + 16)) i))) (hx : Ext m0 m) (ht : ∃ x, tr = tr0 ++ x) (he : (E (lit + 16))[i]? = some e) (hs : tru m e.1) : BinR Λ T Bot lit ptr m0 tr0 L EV E (i + 1) w := by
  obtain ⟨hk, hl⟩ := ha.bin lit hlit e (List.mem_of_getElem? he)
  refine ⟨m, tr, tv, hm, ha, bin_next hp he ⟨e.1, ?_, hs⟩, hx, ht⟩
  rcases hl with h | h <;> rw [h] <;> simp

theorem bin_force {T : Thy} {Bot : Prop} {K lit : Nat} {e : Nat × Nat} (ha : Abs K T Bot m tr L E) (hlit : lit < 16) (he : e ∈ E (lit + 16)) (hl : tru m lit) : T e.1 := by
  obtain ⟨hk, hL⟩ := ha.bin lit hlit e he
  refine ha.unit hk (by rcases hL with h | h <;> rw [h] <;> simp) fun y hy hne => ?_
  have : y = neg lit := by rcases hL with h | h <;> rw [h] at hy <;> simp at hy <;> omega
  rw [this, fls_iff, neg_neg]; exact hl

theorem bin_confl {T : Thy} {Bot : Prop} {K lit : Nat} {e : Nat × Nat} (ha : Abs K T Bot m tr L E) (hlit : lit < 16) (he : e ∈ E (lit + 16)) (hl : tru m lit) (hf : fls m e.1) : Bot := by
  obtain ⟨hk, hL⟩ := ha.bin lit hlit e he
  refine ha.confl hk fun y hy => ?_
  have : y = neg lit ∨ y = e.1 := by rcases hL with h | h <;> rw [h] at hy <;> simp at hy <;> omega
  rcases this with rfl | rfl
  · rw [fls_iff, neg_neg]; exact hl
  · exact hf

theorem bin_unit {T : Thy} {Bot : Prop} {lit ptr i : Nat} {v : Int} {m0 : List Int} {tr0 : List Nat} {e : Nat × Nat} (hlit : lit < 16) (hptr : ptr + 1 ≤ tr.length) (ht16 : e.1 < 16) (hm : Mem Λ w (setm m e.1 v) (tr ++ [e.1]) tv L EV E) (ha : Abs Λ.K T Bot m tr L E)
    (hp : Pen Λ.K m L (pd (tr.drop (ptr + 1)) lit (Rb L (E (lit + 16)) i))) (hx : Ext m0 m) (ht : ∃ x, tr = tr0 ++ x) (he : (E (lit + 16))[i]? = some e) (hl : tru m lit) (h0 : lv m e.1 = 0) (hv : 0 < v) : BinR Λ T Bot lit ptr m0 tr0 L EV E (i + 1) w := by
  obtain ⟨hk, hL⟩ := ha.bin lit hlit e (List.mem_of_getElem? he)
  obtain ⟨x, rfl⟩ := ht
  refine ⟨_, _, tv, hm, ha.bind ht16 h0 hv (bin_force ha hlit (List.mem_of_getElem? he) hl), ?_, hx.trans (ext_setm ha.mlen ht16 h0), x ++ [e.1], by simp⟩
  refine bin_next ?_ he ⟨e.1, by rcases hL with h | h <;> rw [h] <;> simp, by unfold tru; rw [lv_setm_same ha.mlen ht16]; exact hv⟩
  refine hp.bind ha.mlen ht16 h0 hv ?_ ?_
  · rintro k y (h | h)
    · exact .inl (by rw [List.drop_append_of_le_length hptr]; exact List.mem_append_left _ h)
    · exact .inr h
  · intro k
    exact .inl (by rw [neg_neg, List.drop_append_of_le_length hptr]; simp)

theorem bin_end {T : Thy} {Bot : Prop} {K lit i : Nat} {rest : List Nat} (ha : Abs K T Bot m tr L E) (hp : Pen K m L (pd rest lit (Rb L (E (lit + 16)) i))) (hi : (E (lit + 16)).length ≤ i) : Pen K m L (pd rest lit fun k => ∃ o, (o, k) ∈ E lit) := by
  refine hp.next fun k hk _ hw hR => ?_
  rcases hR with ⟨o, ho⟩ | h3
  · rw [List.drop_eq_nil_of_le hi] at ho; cases ho
  · have := ha.regW k hk h3 _ hw
    rwa [neg_neg] at this

/-- What the test of a binary clause's other literal tells. -/
theorem conf_bit {l : Nat} {x : Int} (hx : ¬ x = 0) : (!decide (0 < x) == decide (l % 2 = 0)) = decide (sgn l x < 0) := by
  unfold sgn
  by_cases h1 : 0 < x <;> by_cases h2 : l % 2 = 0 <;> simp [h1, h2] <;> omega

/-- A slice that owns its row: its form. -/
theorem own_form {B : Nat} {ee : TypeId} {size n : Nat} {v : Value} {xs : List Value} (h : w.ownsRow B ee size v n xs) : ∃ a cap, v = .slice a n cap ∧ n ≤ cap ∧ cap ≤ maxLen ∧ (0 < n → ∃ g, a = some ⟨g, 0, none⟩) := by
  obtain ⟨hl, ⟨he, hx⟩ | ⟨g3, cap3, cur, hh, _, hg, hcap, hmx, _⟩⟩ := h
  · subst hx; exact ⟨none, 0, he, Nat.le_refl _, Nat.zero_le _, fun h => absurd h (Nat.lt_irrefl _)⟩
  · exact ⟨_, cap3, hh, hcap, hmx, fun _ => ⟨g3, rfl⟩⟩
end
end Go.Proofs.Ytiimddkopiknpaa
