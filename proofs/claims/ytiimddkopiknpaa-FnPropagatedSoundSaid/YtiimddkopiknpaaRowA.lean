/- What the rows hand in, as the walks take it. -/
import Derived.Test.YtiimddkopiknpaaRows
import Derived.Test.YtiimddkopiknpaaFnp
import Derived.ProofKit
import Derived.Deep.Matrix
namespace Go.Proofs.Ytiimddkopiknpaa
open Go.ChangeShapes Go.WideShapes Go.ChangeAt Go.RowKit Go.Deep

theorem Try.own : ownKnob Try.prog.godebug = none := by kernel_rfl
theorem Try.laidOut : laidOutB Try.prog = true := by kernel_rfl
theorem Try.cells23 : Try.prog.cellsOf 23 = 1 := by kernel_rfl
theorem Try.cells3 : Try.prog.cellsOf 3 = 1 := by kernel_rfl

theorem i64_of_wf {x : Int} (h : (Lit.int .i64 x).wf = true) : I64 x := by
  unfold I64
  have h1 : IntKind.i64.min = -9223372036854775808 := by decide
  have h2 : IntKind.i64.max = 9223372036854775807 := by decide
  simp [Lit.wf, h1, h2] at h
  omega

theorem rowIn_of {w : World} {A : Option Addr} {L C : Nat} {zs : List Int} (h1 : L ≤ C) (h2 : C ≤ maxLen) (h3 : zs.length = C) (h4 : ∀ n ∈ zs, (Lit.int .i64 n).wf = true) (h5 : A = none → C = 0)
    (h6 : ∀ a', A = some a' → ∀ c, c < C → w.cell? (a'.add c) = some (.int .i64 (zs.getD c 0))) : RowIn w (.slice A L C) (zs.take L) := by
  have hl : (zs.take L).length = L := by rw [List.length_take]; omega
  refine ⟨A, C, by rw [hl], by omega, h2, h5, fun x hx => i64_of_wf (h4 x (List.mem_of_mem_take hx)), fun j x hx => ?_⟩
  have hj : j < L := by rw [← hl]; exact (List.getElem?_eq_some_iff.1 hx).1
  rw [List.getElem?_take, if_pos hj] at hx
  cases A with
  | none => have := h5 rfl; omega
  | some a =>
    have hc := h6 a rfl j (by omega)
    obtain ⟨b, o, spot⟩ := a
    have h0 := h6 _ rfl 0 (by omega)
    have hspot : spot = none := by simpa [Addr.add] using World.cell?_spot h0
    subst hspot
    refine ⟨b, o, rfl, ?_⟩
    rw [addP] at hc
    rw [hc, List.getD_eq_getElem?_getD, hx, Option.getD_some]

theorem matIn_of {w : World} {a : Addr} {len cap : Nat} {A : Nat → Option Addr} {L C : Nat → Nat} {Z : Nat → List Int} (hl : len ≤ cap) (hm : cap ≤ maxLen)
    (h : ∀ r, r < cap → w.cell? (a.add r) = some (.slice (A r) (L r) (C r)) ∧ L r ≤ C r ∧ C r ≤ maxLen ∧ (Z r).length = C r ∧ (∀ n ∈ Z r, (Lit.int .i64 n).wf = true) ∧ (A r = none → C r = 0) ∧
        ∀ a', A r = some a' → 0 ≤ a'.block ∧ ∀ c, c < C r → w.cell? (a'.add c) = some (.int .i64 ((Z r).getD c 0))) :
    MatIn w (.slice (some a) len cap) ((List.range len).map fun r => (Z r).take (L r)) := by
  refine ⟨some a, cap, by simp, by simpa using hl, hm, (fun h => by cases h), fun j c hc => ?_⟩
  have hj : j < len := by
    have := (List.getElem?_eq_some_iff.1 hc).1
    simpa using this
  rw [List.getElem?_map, List.getElem?_range hj] at hc
  simp only [Option.map_some, Option.some.injEq] at hc
  subst hc
  obtain ⟨h1, h2, h3, h4, h5, h6, h7⟩ := h j (by omega)
  obtain ⟨b, o, spot⟩ := a
  have hspot : spot = none := by simpa [Addr.add] using World.cell?_spot (h 0 (by omega)).1
  subst hspot
  rw [addP] at h1
  exact ⟨b, o, _, rfl, h1, rowIn_of h2 h3 h4 h5 h6 fun a' ha => (h7 a' ha).2⟩

section
variable {H : Type} {enc : TypeId × Value → H} {W : World}
theorem mat_read {fuel : Nat} {v : Value} {x : DataW H × List MemPlace} {a0 : Option Addr} {len cap : Nat} (hv : v = .slice a0 len cap) (h : DataW.trod enc Try.prog W 0 (fun _ => true) true fuel 22 v.cells.toList = some x) : ∃ cs, MatIn W v cs := by
  subst hv
  rcases open_int_rows Try.underlying22 Try.underlying23 Try.underlying3 Try.cells23 Try.cells3 h with ⟨hcs0, _⟩ | ⟨a, len', cap', A, L, C, Z, hcs0, _, hl, hm, _, hrows⟩
  · simp [Value.cells] at hcs0
    obtain ⟨rfl, rfl, rfl⟩ := hcs0
    exact ⟨[], none, 0, rfl, Nat.le_refl _, Nat.zero_le _, fun _ => rfl, fun j c hc => by simp at hc⟩
  · simp [Value.cells] at hcs0
    obtain ⟨rfl, rfl, rfl⟩ := hcs0
    exact ⟨_, matIn_of hl hm hrows⟩
theorem row_read {fuel : Nat} {v : Value} {x : DataW H × List MemPlace} {a0 : Option Addr} {len cap : Nat} (hv : v = .slice a0 len cap) (h : DataW.trod enc Try.prog W 0 (fun _ => true) true fuel 23 v.cells.toList = some x) : ∃ ds, RowIn W v ds := by
  subst hv
  rcases open_ints Try.underlying23 Try.underlying3 Try.cells3 h with ⟨hcs0, _⟩ | ⟨a, len', cap', zs, hcs0, _, hl, hm, hz, _, hcell, hwf⟩
  · simp [Value.cells] at hcs0
    obtain ⟨rfl, rfl, rfl⟩ := hcs0
    exact ⟨[], none, 0, rfl, Nat.le_refl _, Nat.zero_le _, fun _ => rfl, by simp, fun j c hc => by simp at hc⟩
  · simp [Value.cells] at hcs0
    obtain ⟨rfl, rfl, rfl⟩ := hcs0
    simp only [if_true] at hz
    exact ⟨_, rowIn_of hl hm hz hwf (fun h => by cases h) fun a' ha c hc => by cases ha; exact hcell c (by omega)⟩
end
end Go.Proofs.Ytiimddkopiknpaa
