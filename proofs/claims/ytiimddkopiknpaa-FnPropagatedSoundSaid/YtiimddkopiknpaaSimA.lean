/- The states of the loops of simplify2. -/
import Derived.Test.YtiimddkopiknpaaUpd
namespace Go.Proofs.Ytiimddkopiknpaa
open Go.RowKit

/-- All literals of the clauses ids are open. -/
def Opn (m : List Int) (ids : List Nat) (L : Nat → List Nat) : Prop := ∀ k ∈ ids, ∀ x ∈ L k, lv m x = 0

/-- The problem while it is simplified: nb clauses are left. -/
def SimS (Φ : PL) (C : List (List Nat)) (T : Nat → Prop) (Bot : Prop) (n0 K : Nat) (cb lb : Nat → Nat) (mv : Value) (nb : Nat) (us : List Nat) (uv : Value) (CS : List Nat) (cv : Value) (L : Nat → List Nat) (m : List Int) (w : World) : Prop :=
  PMem Φ w 0 us uv CS cv K cb lb L mv m ∧ PAbs C T Bot m us (CS.take nb) L ∧ nb ≤ n0 ∧ CS.length = n0 ∧ ∀ k ∈ CS, k < K

def OutR (Φ : PL) (C : List (List Nat)) (T : Nat → Prop) (Bot : Prop) (n0 K : Nat) (cb lb : Nat → Nat) (mv : Value) (r : Bool) (nb : Nat) (w : World) : Prop :=
  ∃ us uv CS cv L m, SimS Φ C T Bot n0 K cb lb mv nb us uv CS cv L m w ∧ (r = false → Opn m (CS.take nb) L)

def InR (Φ : PL) (C : List (List Nat)) (T : Nat → Prop) (Bot : Prop) (n0 K : Nat) (cb lb : Nat → Nat) (mv : Value) (N : Nat) (r : Bool) (nb i : Nat) (w : World) : Prop :=
  ∃ us uv CS cv L m, SimS Φ C T Bot n0 K cb lb mv nb us uv CS cv L m w ∧ (r = false → Opn m ((CS.take nb).take i) L) ∧ (r = true → nb < N) ∧ nb ≤ N

section
variable {Φ : PL} {C : List (List Nat)} {T : Nat → Prop} {Bot : Prop} {n0 K : Nat} {cb lb : Nat → Nat} {mv : Value} {nb : Nat} {us : List Nat} {uv : Value} {CS : List Nat} {cv : Value} {L : Nat → List Nat} {m : List Int} {w w' : World} {N : Nat} {r : Bool} {i : Nat}

theorem take_get {α : Type} {l : List α} {n i : Nat} {x : α} (hi : i < n) (h : l[i]? = some x) : (l.take n)[i]? = some x := by rw [List.getElem?_take, if_pos hi]; exact h

/-- A clause that is satisfied has been dropped. -/
theorem InR.drop (h : SimS Φ C T Bot n0 K cb lb mv nb us uv CS cv L m w) {k z : Nat} {l : List Nat} (hi : i < nb) (hk : CS[i]? = some k) (hz : CS[nb - 1]? = some z) (hs : SatC m (L k)) (hp : PMem Φ w' 0 us uv (CS.set i z) cv K cb lb (upd L k l) mv m)
    (ho : r = false → Opn m ((CS.take nb).take i) L) (hr : r = true → nb < N) (hN : nb ≤ N) : InR Φ C T Bot n0 K cb lb mv N r (nb - 1) i w' := by
  obtain ⟨_, ha, hn, hl, hK⟩ := h
  have p := rem_perm hi (by omega) hk hz
  have hnd := p.nodup_iff.1 ha.nod
  rw [List.nodup_cons] at hnd
  refine ⟨us, uv, CS.set i z, cv, upd L k l, m, ⟨hp, ha.drop hs p (fun k' hk' => upd_other _ _ hk'), by omega, by simpa using hl, ?_⟩, ?_, fun e => by have := hr e; omega, by omega⟩
  · intro k' hk'
    rcases List.mem_or_eq_of_mem_set hk' with h1 | h1
    · exact hK k' h1
    · rw [h1]; exact hK z (List.mem_of_getElem? hz)
  · intro e k' hk' x hx
    rw [List.take_take, Nat.min_eq_left (by omega), List.take_set_of_le (Nat.le_refl _)] at hk'
    have h1 : k' ∈ (CS.take nb).take i := by rw [List.take_take, Nat.min_eq_left (by omega)]; exact hk'
    have hne : k' ≠ k := by
      intro e2
      subst e2
      obtain ⟨j, hj⟩ := List.getElem?_of_mem hk'
      rw [List.getElem?_take] at hj
      split at hj
      · have h3 := take_get (n := nb) (by omega) hj
        have h4 := take_get (n := nb) hi hk
        have hlt := (List.getElem?_eq_some_iff.1 h3).1
        have := (List.getElem?_inj hlt ha.nod).1 (h3.trans h4.symm)
        omega
      · cases hj
    rw [upd_other _ _ hne] at hx
    exact ho e k' h1 x hx

/-- A clause's last literal has been bound, and the clause dropped. -/
theorem InR.unit (h : SimS Φ C T Bot n0 K cb lb mv nb us uv CS cv L m w) {k z j x : Nat} {l : List Nat} {uv' : Value} (hi : i < nb) (hk : CS[i]? = some k) (hz : CS[nb - 1]? = some z) (hj : Jr m (L k) l 1 j) (hx : l[0]? = some x) (h0 : lv m x = 0)
    (hp : PMem Φ w' 0 (us ++ [x]) uv' (CS.set i z) cv K cb lb (upd L k l) mv (setm m x 1)) (hN : nb ≤ N) : InR Φ C T Bot n0 K cb lb mv N true (nb - 1) i w' := by
  obtain ⟨_, ha, hn, hl, hK⟩ := h
  have p := rem_perm hi (by omega) hk hz
  refine ⟨us ++ [x], uv', CS.set i z, cv, upd L k l, setm m x 1, ⟨hp, ha.unit (List.mem_of_getElem? (take_get hi hk)) hj hx h0 p (fun k' hk' => upd_other _ _ hk'), by omega, by simpa using hl, ?_⟩, (fun e => by cases e), fun _ => by omega, by omega⟩
  intro k' hk'
  rcases List.mem_or_eq_of_mem_set hk' with h1 | h1
  · exact hK k' h1
  · rw [h1]; exact hK z (List.mem_of_getElem? hz)

/-- A clause has been cut, and is kept. -/
theorem InR.keep (h : SimS Φ C T Bot n0 K cb lb mv nb us uv CS cv L m w) {k nl : Nat} {l : List Nat} (hi : i < nb) (hk : CS[i]? = some k) (hj : Jr m (L k) l nl nl) (h2 : 2 ≤ nl) (hp : PMem Φ w' 0 us uv CS cv K cb lb (upd L k (l.take nl)) mv m)
    (ho : r = false → Opn m ((CS.take nb).take i) L) (hr : r = true → nb < N) (hN : nb ≤ N) : InR Φ C T Bot n0 K cb lb mv N r nb (i + 1) w' := by
  obtain ⟨_, ha, hn, hl, hK⟩ := h
  refine ⟨us, uv, CS, cv, _, m, ⟨hp, ha.keep (List.mem_of_getElem? (take_get hi hk)) hj h2, hn, hl, hK⟩, ?_, hr, hN⟩
  intro e k' hk' x hx
  by_cases e2 : k' = k
  · subst e2
    rw [upd_same] at hx
    exact hj.opens x hx
  · rw [upd_other _ _ e2] at hx
    have hlt : i < (CS.take nb).length := (List.getElem?_eq_some_iff.1 (take_get hi hk)).1
    rw [List.take_succ_eq_append_getElem hlt] at hk'
    rcases List.mem_append.1 hk' with h3 | h3
    · exact ho e k' h3 x hx
    · have := List.mem_singleton.1 h3
      rw [(List.getElem_eq_iff hlt).2 (take_get hi hk)] at this
      exact absurd this e2
end
end Go.Proofs.Ytiimddkopiknpaa
