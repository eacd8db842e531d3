/- What comes in: rows of numbers and lists of such; an append of nothing. -/
import Derived.Test.YtiimddkopiknpaaZzp
namespace Go.Proofs.Ytiimddkopiknpaa
open Go.RowKit

theorem addP (b o i : Nat) : (⟨b, o, none⟩ : Addr).add i = ⟨b, o + i, none⟩ := by unfold Addr.add; split <;> simp_all

def I64 (x : Int) : Prop := -9223372036854775808 ≤ x ∧ x ≤ 9223372036854775807

/-- A value is a slice of the numbers xs. -/
def RowIn (w : World) (v : Value) (xs : List Int) : Prop :=
  ∃ (A : Option Addr) (C : Nat), v = .slice A xs.length C ∧ xs.length ≤ C ∧ C ≤ maxLen ∧ (A = none → C = 0) ∧ (∀ x ∈ xs, I64 x) ∧
    ∀ j x, xs[j]? = some x → ∃ b o, A = some ⟨b, o, none⟩ ∧ w.cell? ⟨b, o + j, none⟩ = some (.int .i64 x)

/-- A value is a slice of slices of numbers. -/
def MatIn (w : World) (v : Value) (cs : List (List Int)) : Prop :=
  ∃ (A : Option Addr) (C : Nat), v = .slice A cs.length C ∧ cs.length ≤ C ∧ C ≤ maxLen ∧ (A = none → C = 0) ∧
    ∀ j c, cs[j]? = some c → ∃ b o rv, A = some ⟨b, o, none⟩ ∧ w.cell? ⟨b, o + j, none⟩ = some rv ∧ RowIn w rv c

theorem cell_lt {w : World} {a : Addr} {v : Value} (h : w.cell? a = some v) : a.block < w.heap.size := World.block_lt_of_cell? _ _ h
theorem RowIn.below {w w' : World} {v : Value} {xs : List Int} (h : RowIn w v xs) (hb : Below w.heap.size w w') : RowIn w' v xs :=
  let ⟨A, C, e, h1, h2, h3, h4, h5⟩ := h
  ⟨A, C, e, h1, h2, h3, h4, fun j x hx => let ⟨b, o, e1, e2⟩ := h5 j x hx; ⟨b, o, e1, by rw [hb.cell (cell_lt e2)]; exact e2⟩⟩
theorem MatIn.below {w w' : World} {v : Value} {cs : List (List Int)} (h : MatIn w v cs) (hb : Below w.heap.size w w') : MatIn w' v cs :=
  let ⟨A, C, e, h1, h2, h3, h5⟩ := h
  ⟨A, C, e, h1, h2, h3, fun j c hc => let ⟨b, o, rv, e1, e2, e3⟩ := h5 j c hc; ⟨b, o, rv, e1, by rw [hb.cell (cell_lt e2)]; exact e2, e3.below hb⟩⟩

/-- The same, as a walk reads it: some row is there. -/
theorem RowIn.full {w : World} {v : Value} {xs : List Int} (h : RowIn w v xs) (hne : xs ≠ []) :
    ∃ b o C, v = .slice (some ⟨b, o, none⟩) xs.length C ∧ xs.length ≤ C ∧ ∀ j x, xs[j]? = some x → w.cell? ⟨b, o + j, none⟩ = some (.int .i64 x) := by
  obtain ⟨A, C, e, h1, h2, h3, h4, h5⟩ := h
  obtain ⟨y, hy⟩ : ∃ y, xs[0]? = some y := by
    cases xs with
    | nil => exact absurd rfl hne
    | cons a l => exact ⟨a, rfl⟩
  obtain ⟨b, o, rfl, _⟩ := h5 0 y hy
  refine ⟨b, o, C, e, h1, fun j x hx => ?_⟩
  obtain ⟨b', o', e1, e2⟩ := h5 j x hx
  injection e1 with e1
  injection e1 with e1 e3
  subst e1 e3
  exact e2
theorem MatIn.full {w : World} {v : Value} {cs : List (List Int)} (h : MatIn w v cs) (hne : cs ≠ []) :
    ∃ b o C, v = .slice (some ⟨b, o, none⟩) cs.length C ∧ ∀ j c, cs[j]? = some c → ∃ rv, w.cell? ⟨b, o + j, none⟩ = some rv ∧ RowIn w rv c := by
  obtain ⟨A, C, e, h1, h2, h3, h5⟩ := h
  obtain ⟨y, hy⟩ : ∃ y, cs[0]? = some y := by
    cases cs with
    | nil => exact absurd rfl hne
    | cons a l => exact ⟨a, rfl⟩
  obtain ⟨b, o, rv, rfl, _⟩ := h5 0 y hy
  refine ⟨b, o, C, e, fun j x hx => ?_⟩
  obtain ⟨b', o', rv', e1, e2, e4⟩ := h5 j x hx
  injection e1 with e1
  injection e1 with e1 e3
  subst e1 e3
  exact ⟨rv', e2, e4⟩

section
variable {P : Program} {w : World}
theorem run_append_zero (t ty e : TypeId) (i : TypeInfo) (ht : P.underlying t = some (.slice e)) (hi : P.info? e = some i) (g : Nat) (A : Option Addr) (C : Nat) :
    (Builtin.append_ #[t, t] ty #[.slice (some ⟨g, 0, none⟩) 0 0, .slice A 0 C]).run P w = .ok (.slice (some ⟨g, 0, none⟩) 0 0) w := by
  cases A <;> simp [Builtin.append_, run_underlying ht, sizeOf, typeInfo, hi, Builtin.lenOf, Builtin.firstCells, storeCells, loadCells, loadCellsFrom]

theorem wpList_append_zero {ops : Array Oper} {rest : List Oper} {o : Oper} {a : Act} {Q : Exit → Act → World → Prop} (hgd : o.guard = none) (s x : Operand) (t : TypeId)
    (ho : o.op = .call { callee := .builtin .append, args := #[s, x], argTypes := #[t, t] })
    (e : TypeId) (i : TypeInfo) (ht : P.underlying t = some (.slice e)) (hi : P.info? e = some i) (g : Nat) (A : Option Addr) (C : Nat) (hs : a.eval s = .slice (some ⟨g, 0, none⟩) 0 0) (hx : a.eval x = .slice A 0 C)
    (h : wpList P ops Q rest (a.put o.dst (.slice (some ⟨g, 0, none⟩) 0 0)) w) : wpList P ops Q (o :: rest) a w := by
  refine wpList_plain hgd fun K hK => ?_
  have hrun := run_append_zero (P := P) (w := w) t o.type e i ht hi g A C
  unfold Oper.wp
  simp [execOp, ho, resolve, invoke, builtin, hs, hx, hrun, Result.andThen]
  exact hK _ _ h
end
end Go.Proofs.Ytiimddkopiknpaa
