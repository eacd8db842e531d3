/- The built-in copy over a row that is known whole, at elements of any number of cells: as an equation, and as a step of a region. -/
import Derived.Test.YtiimddkopiknpaaLib
import Derived.Laws.CopyOwn
namespace Go.Proofs.Ytiimddkopiknpaa
open Go.RowKit

theorem grownBy_setRow (w : World) (g : Nat) (cs : Array Value) : w.grownBy (w.setRow g cs) (some g) :=
  ⟨rfl, rfl, rfl, by simp [World.setRow], fun k _ hne => setRow_other w g k cs (by intro h; exact hne (by rw [h]))⟩

/-- copy: of the first cells of the source as many as fit; the destination lies in block g. -/
theorem run_copy_size {P : Program} (w : World) (dT sT ty elem : TypeId) (i : TypeInfo) (hu : P.underlying dT = some (.slice elem)) (hi : P.info? elem = some i)
    (g o dLen dCap : Nat) (cur : Array Value) (t : TypeId) (hg : w.heap[g]? = some (.cells cur t (0, 0))) (sp : Option Addr) (sLen sCap : Nat) (cs : List Value)
    (hn : cs.length = Nat.min sLen dLen * i.size) (hsrc : sp = none → cs = []) (hsrc' : ∀ a, sp = some a → ∀ j v, cs[j]? = some v → w.cell? (a.add j) = some v)
    (hfit : o + cs.length ≤ cur.size) (h1 : ∀ v ∈ cs, v.oneCell' = true) :
    (Builtin.copy_ #[dT, sT] ty #[.slice (some ⟨g, o, none⟩) dLen dCap, .slice sp sLen sCap]).run P w =
      .ok (goInt (Nat.min sLen dLen)) (w.setRow g (cur.toList.take o ++ cs ++ cur.toList.drop (o + cs.length)).toArray) := by
  have hst := run_storeCells_at P g o t cs 0 cur w hg (by simpa using hfit) h1
  simp only [Nat.add_zero] at hst
  cases sp with
  | none =>
    have := hsrc rfl
    subst this
    have hf := run_firstCells_none (P := P) (w := w) i.size (Nat.min sLen dLen) sLen sCap
    simp only [List.append_nil, List.length_nil, Nat.add_zero] at hst ⊢
    simp [Builtin.copy_, run_underlying hu, Builtin.lenOf, sizeOf, typeInfo, hi, hf]
    simp at hst
    simp [hst]
  | some a =>
    have hf := run_firstCells_some (P := P) w i.size (Nat.min sLen dLen) a sLen sCap cs hn (hsrc' a rfl)
    simp [Builtin.copy_, run_underlying hu, Builtin.lenOf, sizeOf, typeInfo, hi, hf, hst]

/-- The same as a step of a region. -/
theorem step_copy_size {P : Program} {ops : Array Oper} {o : Oper} {a : Act} {w : World} {K : Act → World → Prop} {Q : Exit → Act → World → Prop} {E : Prop} (hgd : o.guard = none) (d s : Operand) (dT sT : TypeId)
    (ho : o.op = .call { callee := .builtin .copy, args := #[d, s], argTypes := #[dT, sT] }) (elem : TypeId) (i : TypeInfo) (hu : P.underlying dT = some (.slice elem)) (hi : P.info? elem = some i)
    (g off dLen dCap : Nat) (cur : Array Value) (t : TypeId) (hd : a.eval d = .slice (some ⟨g, off, none⟩) dLen dCap) (hg : w.heap[g]? = some (.cells cur t (0, 0))) (sp : Option Addr) (sLen sCap : Nat) (hs : a.eval s = .slice sp sLen sCap) (cs : List Value)
    (hn : cs.length = Nat.min sLen dLen * i.size) (hsrc : sp = none → cs = []) (hsrc' : ∀ a, sp = some a → ∀ j v, cs[j]? = some v → w.cell? (a.add j) = some v)
    (hfit : off + cs.length ≤ cur.size) (h1 : ∀ v ∈ cs, v.oneCell' = true)
    (h : K (a.put o.dst (goInt (Nat.min sLen dLen))) (w.setRow g (cur.toList.take off ++ cs ++ cur.toList.drop (off + cs.length)).toArray)) :
    if Region.wanted o (yielded ops a.tmps) = true then Oper.wp P o a w K Q else E := by
  have hw : Region.wanted o (yielded ops a.tmps) = true := by simp [Region.wanted, hgd]
  rw [if_pos hw]
  have hrun := run_copy_size (P := P) w dT sT o.type elem i hu hi g off dLen dCap cur t hg sp sLen sCap cs hn hsrc hsrc' hfit h1
  unfold Oper.wp execOp
  simp only [ho, resolve, invoke, builtin, Sem.run_bind, Sem.run_pure, Result.andThen_ok, List.map_toArray, List.map_cons, List.map_nil, hs, hd, hrun]
  exact h
end Go.Proofs.Ytiimddkopiknpaa
