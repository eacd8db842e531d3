/- What New calls that does nothing here; luby at 1. -/
import Derived.Test.YtiimddkopiknpaaIni
import Derived.Test.YtiimddkopiknpaaQue
import Derived.Test.YtiimddkopiknpaaNb
import Derived.Test.YtiimddkopiknpaaBld
namespace Go.Proofs.Ytiimddkopiknpaa
open Go.RowKit
attribute [local go_sem ↓] Go.wp_at_zero Go.wp_at_succ

set_option maxRecDepth 100000 in
theorem luby_any (w : World) : Calls Try.prog 38 #[.int .u64 1] w fun e w' => e = .returned (.int .u64 1) ∧ w = w' := by
  go_enter Try.func38, Try.ntmps38
  go_wp2_with fail
  go_loopg [3] 0 (fun gk iv wr => iv = .int .i64 1 ∧ wr = w)
  case atStart => exact ⟨rfl, rfl⟩
  case round =>
    obtain ⟨rfl, hwe⟩ := hrel
    subst hwe
    go_wp2_with fail
    go_ret
    exact ⟨by simp, rfl⟩

/-- resetOptimPolarity, initOptimActivity: nothing is to be optimized. -/
theorem rop_any {w : World} {s : Nat} (f : w.cell? ⟨s, 5094, none⟩ = some (.slice none 0 0)) : Calls Try.prog 39 #[.pointer (some ⟨s, 0, none⟩)] w fun e w' => e = .returned (.tuple #[]) ∧ w = w' := by
  go_enter Try.func39, Try.ntmps39
  go_wp2_with fail
  go_end0
  exact ⟨rfl, rfl⟩
theorem ioa_any {w : World} {s : Nat} (f : w.cell? ⟨s, 5094, none⟩ = some (.slice none 0 0)) : Calls Try.prog 40 #[.pointer (some ⟨s, 0, none⟩)] w fun e w' => e = .returned (.tuple #[]) ∧ w = w' := by
  go_enter Try.func40, Try.ntmps40
  go_wp2_with fail
  go_loopg [10] 0 (fun gk iv wr => iv = .int .i64 0 ∧ wr = w)
  case atStart => exact ⟨rfl, rfl⟩
  case round =>
    obtain ⟨rfl, hwe⟩ := hrel
    subst hwe
    go_wp2_with fail
    go_end0
    exact ⟨rfl, rfl⟩

end Go.Proofs.Ytiimddkopiknpaa
