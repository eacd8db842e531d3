/- Small laws on blocks of the heap that the later texts use: rows of cells, what a world change keeps. -/
import Derived.WalkKit
import Derived.WalkSpells
import Derived.Deep.AppendLies
namespace Go.Proofs.Ytiimddkopiknpaa
open Go.RowKit

/-- Block b is a row of the cells c, of element type e, nothing frozen. -/
def Row (w : World) (b : Nat) (e : TypeId) (c : List Value) : Prop := w.heap[b]? = some (.cells c.toArray e (0, 0))

theorem Row.cell {w : World} {b : Nat} {e : TypeId} {c : List Value} (h : Row w b e c) {i : Nat} {v : Value} (hv : c[i]? = some v) : w.cell? ⟨b, i, none⟩ = some v := by
  unfold Row at h
  simp [World.cell?, h, hv]

theorem Row.frozen {w : World} {b : Nat} {e : TypeId} {c : List Value} (h : Row w b e c) (i : Nat) : w.frozen? ⟨b, i, none⟩ = false := by
  unfold Row at h
  simp [World.frozen?, h]

theorem Row.lt {w : World} {b : Nat} {e : TypeId} {c : List Value} (h : Row w b e c) : b < w.heap.size := (Array.getElem?_eq_some_iff.1 h).1

theorem Row.ne {w : World} {b b' : Nat} {e e' : TypeId} {c c' : List Value} (h : Row w b e c) (h' : Row w b' e' c') (he : e ≠ e') : b ≠ b' := by
  rintro rfl
  unfold Row at h h'
  rw [h] at h'
  injection h' with h1
  injection h1 with _ h2 _
  exact he h2

theorem Row.drew {w : World} {b : Nat} {e : TypeId} {c : List Value} (h : Row w b e c) : Row w.drew b e c := h

theorem Row.kept {w w' : World} {row : Option Nat} {b : Nat} {e : TypeId} {c : List Value} (h : Row w b e c) (hg : w.grownBy w' row) (hne : row ≠ some b) : Row w' b e c := by
  unfold Row at *
  rw [hg.block b (Array.getElem?_eq_some_iff.1 h).1 (fun e => hne e.symm)]
  exact h

theorem Row.alloc {w : World} {b : Nat} {e : TypeId} {c : List Value} (h : Row w b e c) (o : Obj) : Row (w.alloc o) b e c :=
  h.kept (World.grownBy_alloc w o none) (by simp)

theorem Row.new (w : World) (e : TypeId) (c : List Value) : Row (w.alloc (.cells c.toArray e)) w.heap.size e c := heap_alloc_new w _

theorem Row.set {w : World} {b : Nat} {e : TypeId} {c : List Value} (h : Row w b e c) (i : Nat) (v : Value) : Row (w.setCell ⟨b, i, none⟩ v) b e (c.set i v) := by
  unfold Row at *
  simp [World.setCell, Array.getElem?_modify, h]

theorem grownBy_refl (w : World) (row : Option Nat) : w.grownBy w row := ⟨rfl, rfl, rfl, Nat.le_refl _, fun _ _ _ => rfl⟩
theorem grownBy_drew (w : World) (row : Option Nat) : w.grownBy w.drew row := ⟨rfl, rfl, rfl, Nat.le_refl _, fun _ _ _ => rfl⟩
theorem grownBy_setCell (w : World) (a : Addr) (v : Value) : w.grownBy (w.setCell a v) (some a.block) := by
  refine ⟨rfl, rfl, rfl, by simp [World.setCell], fun k hk hne => ?_⟩
  simp only [World.setCell, Array.getElem?_modify]
  rw [if_neg (fun h => hne (by rw [h]))]

theorem grownBy_trans {w w1 w2 : World} {row : Option Nat} (h : w.grownBy w1 row) (h' : w1.grownBy w2 row) : w.grownBy w2 row :=
  ⟨h'.os.trans h.os, h'.tape.trans h.tape, h'.output.trans h.output, Nat.le_trans h.size h'.size,
    fun k hk hne => (h'.block k (Nat.lt_of_lt_of_le hk h.size) hne).trans (h.block k hk hne)⟩

/-- A row that may change which is in truth a new block: nothing old has changed. -/
theorem grownBy_none_of {w w' : World} {b : Nat} (h : w.grownBy w' (some b)) (hb : w.heap.size ≤ b) : w.grownBy w' none :=
  ⟨h.os, h.tape, h.output, h.size, fun k hk _ => h.block k hk (by intro e; cases e; omega)⟩
theorem grownBy_weaken {w w' : World} (h : w.grownBy w' none) (row : Option Nat) : w.grownBy w' row :=
  ⟨h.os, h.tape, h.output, h.size, fun k hk _ => h.block k hk (by simp)⟩

theorem Below.of_grown {B : Nat} {w w' : World} {row : Option Nat} (hg : w.grownBy w' row) (hB : B ≤ w.heap.size) (hr : ∀ k, row = some k → B ≤ k) : Below B w w' :=
  (Below.refl B w).grown hg hB hr
theorem Row.below {B : Nat} {w w' : World} {b : Nat} {e : TypeId} {c : List Value} (h : Row w b e c) (hb : Below B w w') (hlt : b < B) : Row w' b e c := by
  unfold Row at *; rw [hb.block b hlt]; exact h

/-- An owned row's block is no row of another type, nor one below the base. -/
theorem own_ne {w : World} {B : Nat} {e e' : TypeId} {size n : Nat} {v : Value} {xs : List Value} {b : Nat} {c : List Value}
    (h : w.ownsRow B e size v n xs) (h' : Row w b e' c) (he : e ≠ e' ∨ b < B) : v.ownBlock ≠ some b := by
  intro hb
  rcases h.2 with ⟨rfl, _⟩ | ⟨g, cap, cur, rfl, hB, hg, _⟩
  · simp [Value.ownBlock] at hb
  · simp only [Value.ownBlock, Option.some.injEq] at hb
    subst hb
    unfold Row at h'
    rw [h'] at hg
    injection hg with h1
    injection h1 with _ h2 _
    rcases he with he | he
    · exact he h2.symm
    · exact absurd hB (by omega)

theorem own_drew {w : World} {B : Nat} {e : TypeId} {size n : Nat} {v : Value} {xs : List Value} (h : w.ownsRow B e size v n xs) : w.drew.ownsRow B e size v n xs := h

/-- The cell behind index i of an owned row. -/
theorem own_cell {w : World} {B : Nat} {e : TypeId} {size n : Nat} {v : Value} {xs : List Value} (h : w.ownsRow B e size v n xs) {i : Nat} {u : Value} (hu : xs[i]? = some u) :
    ∃ g cap, v = .slice (some ⟨g, 0, none⟩) n cap ∧ w.cell? ⟨g, i, none⟩ = some u ∧ w.frozen? ⟨g, i, none⟩ = false ∧ B ≤ g ∧ g < w.heap.size := by
  rcases h.2 with ⟨rfl, rfl⟩ | ⟨g, cap, cur, rfl, hB, hg, hcap, hmax, hsz, htake⟩
  · have := h.1; simp at this; subst this; simp at hu
  · refine ⟨g, cap, rfl, ?_, by simp [World.frozen?, hg], hB, (Array.getElem?_eq_some_iff.1 hg).1⟩
    rw [← htake, List.getElem?_take] at hu
    split at hu
    · simp [World.cell?, hg]; simpa using hu
    · cases hu

/-- A store into an owned row, within its length. -/
theorem own_set {w : World} {B : Nat} {e : TypeId} {size n : Nat} {xs : List Value} {g cap : Nat} (h : w.ownsRow B e size (.slice (some ⟨g, 0, none⟩) n cap) n xs) (i : Nat) (u : Value) :
    (w.setCell ⟨g, i, none⟩ u).ownsRow B e size (.slice (some ⟨g, 0, none⟩) n cap) n (xs.set i u) := by
  refine ⟨by simpa using h.1, ?_⟩
  rcases h.2 with ⟨h1, _⟩ | ⟨g', cap', cur, h1, hB, hg, hcap, hmax, hsz, htake⟩
  · cases h1
  · injection h1 with h1 _ h3
    injection h1 with h1
    injection h1 with h1
    subst h1; subst h3
    refine .inr ⟨g, cap, cur.setIfInBounds i u, rfl, hB, ?_, hcap, hmax, by simpa using hsz, ?_⟩
    · simp [World.setCell, Array.getElem?_modify, hg]
    · rw [← htake, Array.toList_setIfInBounds, List.take_set]

/-- The same row, cut shorter. -/
theorem own_cut {w : World} {B : Nat} {e : TypeId} {size n m : Nat} {xs : List Value} {g cap : Nat} (h : w.ownsRow B e size (.slice (some ⟨g, 0, none⟩) n cap) n xs) (hm : m ≤ n) :
    w.ownsRow B e size (.slice (some ⟨g, 0, none⟩) m cap) m (xs.take (m * size)) := by
  have hle : m * size ≤ n * size := Nat.mul_le_mul_right _ hm
  refine ⟨by rw [List.length_take, h.1]; omega, ?_⟩
  rcases h.2 with ⟨h1, _⟩ | ⟨g', cap', cur, h1, hB, hg, hcap, hmax, hsz, htake⟩
  · cases h1
  · injection h1 with h1 _ h3
    injection h1 with h1
    injection h1 with h1
    subst h1; subst h3
    refine .inr ⟨g, cap, cur, rfl, hB, hg, by omega, hmax, hsz, ?_⟩
    rw [← htake, List.take_take, Nat.min_eq_left hle]

end Go.Proofs.Ytiimddkopiknpaa
