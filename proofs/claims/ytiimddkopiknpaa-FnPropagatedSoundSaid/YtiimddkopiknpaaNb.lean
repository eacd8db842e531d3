/- ParseSliceNb: the contract nb_mem. -/
import Derived.Test.YtiimddkopiknpaaPar
namespace Go.Proofs.Ytiimddkopiknpaa
open Go.RowKit
attribute [local go_sem ↓] Go.wp_at_zero Go.wp_at_succ

/-- A problem that is laid at the heap's end. -/
def mkPL (w : World) : PL := ⟨w, w.heap.size, w.heap.size, Nat.le_refl _, Nat.le_refl _⟩

def NbPost (Φ : PL) (C : List (List Nat)) (T : Nat → Prop) (Bot : Prop) (w : World) : Prop :=
  (Bot ∧ ∃ us uv CS cv K cb lb L mv m, PMem Φ w 2 us uv CS cv K cb lb L mv m) ∨
    ∃ st us uv CS cv K cb lb L bm m, (st = 0 ∨ st = 1) ∧ PMem Φ w st us uv CS cv K cb lb L (.slice (some ⟨bm, 0, none⟩) 8 8) m ∧ PAbs C T Bot m us CS L ∧ (∀ k ∈ CS, k < K) ∧ CS.length ≤ 20 ∧ Opn m CS L

set_option maxRecDepth 100000 in
set_option maxHeartbeats 1000000 in
theorem nb_mem {T : Nat → Prop} {Bot : Prop} {cs : List (List Int)} {w : World} {g cap : Nat} (hbot : ∀ l, l < 16 → T l → T (neg l) → Bot) (hok : ∀ c ∈ cs, ClsOk c) (hlen : cs.length ≤ 20) (hT : ∀ c ∈ cs, Rules T Bot (c.map enc))
    (hcnf : CnfAt w w.heap.size g cs) :
    Calls Try.prog 30 #[.slice (some ⟨g, 0, none⟩) cs.length cap, .int .i64 8] w fun e w' => e = .returned (.pointer (some ⟨w.heap.size, 0, none⟩)) ∧ NbPost (mkPL w) (cs.map (·.map enc)) T Bot w' := by
  go_enter Try.func30, Try.ntmps30
  go_wp2_with fail
  have hp : PMem (mkPL w) (w.alloc (.cells #[.int .i64 8, .slice none 0 0, .int .u8 0, .slice none 0 0, .slice none 0 0, .slice none 0 0, .slice none 0 0] 88)) 0 [] (.slice none 0 0) [] (.slice none 0 0) 0 (fun _ => 0) (fun _ => 0) (fun _ => []) (.slice none 0 0) [] := by
    refine ⟨Row.new w 88 _, ⟨rfl, .inl ⟨rfl, rfl⟩⟩, ⟨rfl, .inl ⟨rfl, rfl⟩⟩, by omega, by omega, by omega, by omega, by omega, by omega, .inl ⟨rfl, rfl⟩, ?_⟩
    exact Below.of_grown (World.grownBy_alloc w _ none) (Nat.le_refl _) (fun _ h => by cases h)
  refine (par_mem (Φ := mkPL w) (T := T) (Bot := Bot) hbot hok hlen hT hcnf hp).mono ?_
  rintro e w' ⟨rfl, hpost⟩
  have HP := Lib.hid hpost
  clear hpost hp
  go_wp2_with fail
  go_ret
  exact ⟨rfl, HP.out⟩
end Go.Proofs.Ytiimddkopiknpaa
