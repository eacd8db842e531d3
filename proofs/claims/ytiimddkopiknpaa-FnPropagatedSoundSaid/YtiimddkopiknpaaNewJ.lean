/- What holds while New makes the solver's parts, in whatever order. -/
import Derived.Test.YtiimddkopiknpaaOG2
import Derived.Test.YtiimddkopiknpaaBld
namespace Go.Proofs.Ytiimddkopiknpaa
open Go.RowKit

/-- The slices that are made: element type, length, capacity, zero. -/
def tabN (nt ct : Nat) (i : Nat) : Option (TypeId × Nat × Nat × Value) :=
  if i = 11 then some (90, nt, ct, .int .i32 0) else if i = 17 then some (67, 8, 8, .float .f64 0) else if i = 19 ∨ i = 21 then some (4, 8, 8, .bool false) else if i = 23 then some (50, 8, 8, .pointer none) else
  if i = 36 ∨ i = 38 ∨ i = 40 then some (3, 8, 8, .int .i64 0) else none
/-- The values that are known. -/
def pvN (i : Nat) : Option Value := if i = 24 then some (.int .u64 1) else if i = 25 then some (.int .u64 512) else if i = 26 then some (.int .i64 512) else none

structure NJ (W0 : World) (nt ct : Nat) (st : Int) (bm : Nat) (σ : Nat → Option Value) (w : World) : Prop where
  hg : W0.grownBy w none
  dom : ∀ j, (σ j).isSome = true → j ∈ [11, 17, 19, 21, 23, 24, 25, 26, 36, 38, 40, 41, 42]
  al : ∀ i e n c z v, tabN nt ct i = some (e, n, c, z) → σ i = some v → ∃ b, v = .slice (some ⟨b, 0, none⟩) n c ∧ W0.heap.size ≤ b ∧ Row w b e (List.replicate c z)
  pv : ∀ i u v, pvN i = some u → σ i = some v → v = u
  bd : ∀ v, σ 41 = some v → ∃ wb b11 b17 b19 b21 b23 b36 b38 b40, σ 11 = some (.slice (some ⟨b11, 0, none⟩) nt ct) ∧ σ 17 = some (.slice (some ⟨b17, 0, none⟩) 8 8) ∧ σ 23 = some (.slice (some ⟨b23, 0, none⟩) 8 8) ∧
    v = .agg (cells78 (parts78 st b11 nt ct bm b17 b19 b21 b23 b36 b38 b40) wb)
  bx : ∀ v, σ 42 = some v → ∃ (s : Nat) (C : Array Value), v = .pointer (some ⟨s, 0, none⟩) ∧ W0.heap.size ≤ s ∧ σ 41 = some (.agg C) ∧ Row w s 78 C.toList

section
variable {W0 w : World} {nt ct bm : Nat} {st : Int} {σ : Nat → Option Value}

theorem NJ.start : NJ W0 nt ct st bm (fun _ => none) W0 := ⟨grownBy_refl _ _, by simp, by simp, by simp, by simp, by simp⟩

theorem updO_same {σ : Nat → Option Value} {i : Nat} {v : Value} : updO σ i v i = some v := by simp [updO]
theorem updO_ne {σ : Nat → Option Value} {i j : Nat} {v : Value} (h : j ≠ i) : updO σ i v j = σ j := by simp [updO, h]

theorem NJ.make (h : NJ W0 nt ct st bm σ w) {i : Nat} {e : TypeId} {n c : Nat} {z : Value} (ht : tabN nt ct i = some (e, n, c, z)) (hi : i ∈ [11, 17, 19, 21, 23, 36, 38, 40]) (hn : σ i = none) :
    NJ W0 nt ct st bm (updO σ i (.slice (some ⟨w.heap.size, 0, none⟩) n c)) (w.alloc (.cells (Array.replicate c z) e)) := by
  have hga := World.grownBy_alloc w (.cells (Array.replicate c z) e) none
  have hi' : i ≠ 41 ∧ i ≠ 42 ∧ pvN i = none := by
    simp only [List.mem_cons, List.not_mem_nil, or_false] at hi
    rcases hi with rfl | rfl | rfl | rfl | rfl | rfl | rfl | rfl <;> exact ⟨by omega, by omega, by decide⟩
  refine ⟨grownBy_trans h.hg hga, ?_, ?_, ?_, ?_, ?_⟩
  · intro j hj
    by_cases ej : j = i
    · subst ej
      simp only [List.mem_cons, List.not_mem_nil, or_false] at hi ⊢
      omega
    · exact h.dom j (by rwa [updO_ne ej] at hj)
  · intro j e' n' c' z' v ht' hv
    by_cases ej : j = i
    · subst ej
      rw [ht] at ht'
      simp only [Option.some.injEq, Prod.mk.injEq] at ht'
      obtain ⟨rfl, rfl, rfl, rfl⟩ := ht'
      rw [updO_same] at hv
      injection hv with hv
      exact ⟨_, hv.symm, h.hg.size, Row.make w e z c⟩
    · rw [updO_ne ej] at hv
      obtain ⟨b, h1, h2, h3⟩ := h.al j e' n' c' z' v ht' hv
      exact ⟨b, h1, h2, h3.kept hga (by simp)⟩
  · intro j u v hp hv
    have ej : j ≠ i := fun e => by rw [e, hi'.2.2] at hp; cases hp
    rw [updO_ne ej] at hv
    exact h.pv j u v hp hv
  · intro v hv
    rw [updO_ne (Ne.symm hi'.1)] at hv
    obtain ⟨wb, b11, b17, b19, b21, b23, b36, b38, b40, k1, k2, k3, k4⟩ := h.bd v hv
    refine ⟨wb, b11, b17, b19, b21, b23, b36, b38, b40, ?_, ?_, ?_, k4⟩
    · rw [updO_ne (fun e => by rw [← e, k1] at hn; cases hn)]; exact k1
    · rw [updO_ne (fun e => by rw [← e, k2] at hn; cases hn)]; exact k2
    · rw [updO_ne (fun e => by rw [← e, k3] at hn; cases hn)]; exact k3
  · intro v hv
    rw [updO_ne (Ne.symm hi'.2.1)] at hv
    obtain ⟨s, C, k1, k2, k3, k4⟩ := h.bx v hv
    exact ⟨s, C, k1, k2, by rw [updO_ne (Ne.symm hi'.1)]; exact k3, k4.kept hga (by simp)⟩

theorem NJ.pure (h : NJ W0 nt ct st bm σ w) {i : Nat} {u : Value} (hu : pvN i = some u) (hi : i ∈ [24, 25, 26]) : NJ W0 nt ct st bm (updO σ i u) w := by
  have hi' : i ≠ 41 ∧ i ≠ 42 ∧ tabN nt ct i = none ∧ i ≠ 11 ∧ i ≠ 17 ∧ i ≠ 23 := by
    simp only [List.mem_cons, List.not_mem_nil, or_false] at hi
    rcases hi with rfl | rfl | rfl <;> exact ⟨by omega, by omega, by simp [tabN], by omega, by omega, by omega⟩
  refine ⟨h.hg, ?_, ?_, ?_, ?_, ?_⟩
  · intro j hj
    by_cases ej : j = i
    · subst ej
      simp only [List.mem_cons, List.not_mem_nil, or_false] at hi ⊢
      omega
    · exact h.dom j (by rwa [updO_ne ej] at hj)
  · intro j e' n' c' z' v ht' hv
    have ej : j ≠ i := fun e => by rw [e, hi'.2.2.1] at ht'; cases ht'
    rw [updO_ne ej] at hv
    exact h.al j e' n' c' z' v ht' hv
  · intro j u' v hp hv
    by_cases ej : j = i
    · subst ej
      rw [hu] at hp
      injection hp with hp
      rw [updO_same] at hv
      injection hv with hv
      rw [← hv, hp]
    · rw [updO_ne ej] at hv
      exact h.pv j u' v hp hv
  · intro v hv
    rw [updO_ne (Ne.symm hi'.1)] at hv
    obtain ⟨wb, b11, b17, b19, b21, b23, b36, b38, b40, k1, k2, k3, k4⟩ := h.bd v hv
    exact ⟨wb, b11, b17, b19, b21, b23, b36, b38, b40, by rw [updO_ne (Ne.symm hi'.2.2.2.1)]; exact k1, by rw [updO_ne (Ne.symm hi'.2.2.2.2.1)]; exact k2, by rw [updO_ne (Ne.symm hi'.2.2.2.2.2)]; exact k3, k4⟩
  · intro v hv
    rw [updO_ne (Ne.symm hi'.2.1)] at hv
    obtain ⟨s, C, k1, k2, k3, k4⟩ := h.bx v hv
    exact ⟨s, C, k1, k2, by rw [updO_ne (Ne.symm hi'.1)]; exact k3, k4⟩

theorem NJ.build (h : NJ W0 nt ct st bm σ w) (hn : σ 42 = none) {b11 b17 b19 b21 b23 b36 b38 b40 : Nat} {wb : World} (k1 : σ 11 = some (.slice (some ⟨b11, 0, none⟩) nt ct)) (k2 : σ 17 = some (.slice (some ⟨b17, 0, none⟩) 8 8)) (k3 : σ 23 = some (.slice (some ⟨b23, 0, none⟩) 8 8)) :
    NJ W0 nt ct st bm (updO σ 41 (.agg (cells78 (parts78 st b11 nt ct bm b17 b19 b21 b23 b36 b38 b40) wb))) w := by
  refine ⟨h.hg, ?_, ?_, ?_, ?_, ?_⟩
  · intro j hj
    by_cases ej : j = 41
    · subst ej; simp
    · exact h.dom j (by rwa [updO_ne ej] at hj)
  · intro j e' n' c' z' v ht' hv
    have ej : j ≠ 41 := fun e => by rw [e] at ht'; simp [tabN] at ht'
    rw [updO_ne ej] at hv
    exact h.al j e' n' c' z' v ht' hv
  · intro j u' v hp hv
    have ej : j ≠ 41 := fun e => by rw [e] at hp; simp [pvN] at hp
    rw [updO_ne ej] at hv
    exact h.pv j u' v hp hv
  · intro v hv
    rw [updO_same] at hv
    injection hv with hv
    exact ⟨wb, b11, b17, b19, b21, b23, b36, b38, b40, by rw [updO_ne (by omega)]; exact k1, by rw [updO_ne (by omega)]; exact k2, by rw [updO_ne (by omega)]; exact k3, hv.symm⟩
  · intro v hv
    rw [updO_ne (by omega), hn] at hv
    cases hv

theorem NJ.box (h : NJ W0 nt ct st bm σ w) {C : Array Value} (k : σ 41 = some (.agg C)) : NJ W0 nt ct st bm (updO σ 42 (.pointer (some ⟨w.heap.size, 0, none⟩))) (w.alloc (.cells C 78)) := by
  have hga := World.grownBy_alloc w (.cells C 78) none
  refine ⟨grownBy_trans h.hg hga, ?_, ?_, ?_, ?_, ?_⟩
  · intro j hj
    by_cases ej : j = 42
    · subst ej; simp
    · exact h.dom j (by rwa [updO_ne ej] at hj)
  · intro j e' n' c' z' v ht' hv
    have ej : j ≠ 42 := fun e => by rw [e] at ht'; simp [tabN] at ht'
    rw [updO_ne ej] at hv
    obtain ⟨b, h1, h2, h3⟩ := h.al j e' n' c' z' v ht' hv
    exact ⟨b, h1, h2, h3.kept hga (by simp)⟩
  · intro j u' v hp hv
    have ej : j ≠ 42 := fun e => by rw [e] at hp; simp [pvN] at hp
    rw [updO_ne ej] at hv
    exact h.pv j u' v hp hv
  · intro v hv
    rw [updO_ne (by omega)] at hv
    obtain ⟨wb, b11, b17, b19, b21, b23, b36, b38, b40, k1, k2, k3, k4⟩ := h.bd v hv
    exact ⟨wb, b11, b17, b19, b21, b23, b36, b38, b40, by rw [updO_ne (by omega)]; exact k1, by rw [updO_ne (by omega)]; exact k2, by rw [updO_ne (by omega)]; exact k3, k4⟩
  · intro v hv
    rw [updO_same] at hv
    injection hv with hv
    refine ⟨_, C, hv.symm, h.hg.size, by rw [updO_ne (by omega)]; exact k, ?_⟩
    have := Row.new w 78 C.toList
    simpa using this
end
end Go.Proofs.Ytiimddkopiknpaa
