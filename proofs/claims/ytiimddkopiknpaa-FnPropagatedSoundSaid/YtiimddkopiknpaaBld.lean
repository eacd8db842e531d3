/- The solver's struct, built. -/
import Derived.Test.YtiimddkopiknpaaParA
namespace Go.Proofs.Ytiimddkopiknpaa
open Go.RowKit

/-- How the solver's struct is built: what New names of it. -/
def parts78 (st : Int) (bt nt ct bm ba bp bs br b1 b2 b3 : Nat) : Array (Nat × Value) :=
  #[(4, .int .i64 8), (5, .int .u8 st), (7, .slice (some ⟨bt, 0, none⟩) nt ct), (8, .slice (some ⟨bm, 0, none⟩) 8 8), (10, .slice (some ⟨ba, 0, none⟩) 8 8), (11, .slice (some ⟨bp, 0, none⟩) 8 8), (12, .slice (some ⟨bs, 0, none⟩) 8 8), (13, .slice (some ⟨br, 0, none⟩) 8 8),
    (15, .float .f64 4607182418800017408), (16, .float .f32 1065353216), (18, .int .i64 512), (20, .slice none 0 0), (21, .slice none 0 0), (24, .float .f64 4605380978949069210), (25, .slice (some ⟨b1, 0, none⟩) 8 8), (26, .slice (some ⟨b2, 0, none⟩) 8 8), (27, .slice (some ⟨b3, 0, none⟩) 8 8)]
noncomputable def cells78 (parts : Array (Nat × Value)) (w : World) : Array Value := match (Instr.build 78 parts).run Try.prog w with | .ok (.agg c) _ => c | _ => #[]

section
variable {st : Int} {bt nt ct bm ba bp bs br b1 b2 b3 : Nat} {w : World}
theorem run78 : (Instr.build 78 (parts78 st bt nt ct bm ba bp bs br b1 b2 b3)).run Try.prog w = .ok (.agg (cells78 (parts78 st bt nt ct bm ba bp bs br b1 b2 b3) w)) w := by kernel_rfl
theorem c78_4 : (cells78 (parts78 st bt nt ct bm ba bp bs br b1 b2 b3) w)[4]? = some (.int .i64 8) := by kernel_rfl
theorem c78_14 : (cells78 (parts78 st bt nt ct bm ba bp bs br b1 b2 b3) w)[14]? = some (.slice (some ⟨bt, 0, none⟩) nt ct) := by kernel_rfl
theorem c78_15 : (cells78 (parts78 st bt nt ct bm ba bp bs br b1 b2 b3) w)[15]? = some (.slice (some ⟨bm, 0, none⟩) 8 8) := by kernel_rfl
theorem c78_17 : (cells78 (parts78 st bt nt ct bm ba bp bs br b1 b2 b3) w)[17]? = some (.slice (some ⟨ba, 0, none⟩) 8 8) := by kernel_rfl
theorem c78_20 : (cells78 (parts78 st bt nt ct bm ba bp bs br b1 b2 b3) w)[20]? = some (.slice (some ⟨br, 0, none⟩) 8 8) := by kernel_rfl
theorem c78_5094 : (cells78 (parts78 st bt nt ct bm ba bp bs br b1 b2 b3) w)[5094]? = some (.slice none 0 0) := by kernel_rfl
theorem c78_size : (cells78 (parts78 st bt nt ct bm ba bp bs br b1 b2 b3) w).size = 5102 := by kernel_rfl
end
end Go.Proofs.Ytiimddkopiknpaa
