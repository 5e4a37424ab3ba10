/- math.Abs of a balance, and whether it is more than 1. -/
import Derived.Test.YtidekgmpbcnfmaaAvMem
import Derived.Laws.FloatArith
namespace Go.Proofs.Ytidekgmpbcnfmaa
set_option linter.unusedVariables false
open Go.RowKit

theorem bits_call (x : Nat) (w : World) : (callFunc 55 #[.float .f64 x]).run Try.prog w = .ok (.value (.int .u64 (x : Int))) w := by kernel_rfl
theorem frombits_call (x : Nat) (w : World) : (callFunc 54 #[.int .u64 (x : Int)]).run Try.prog w = .ok (.value (.float .f64 x)) w := by kernel_rfl
set_option maxRecDepth 100000 in
theorem abs_m2 (w : World) : Calls Try.prog 49 #[.float .f64 13835058055282163712] w fun e w' => e = .returned (.float .f64 4611686018427387904) ∧ w' = w := by
  have e3 := bits_call 13835058055282163712
  have e4 : ∀ w : World, (callFunc 54 #[.int .u64 4611686018427387904]).run Try.prog w = .ok (.value (.float .f64 4611686018427387904)) w := frombits_call 4611686018427387904
  have e5 : bits BinOp.andNot IntKind.u64 13835058055282163712 9223372036854775808 = 4611686018427387904 := by kernel_rfl
  go_enter Try.func49, Try.ntmps49
  go_wp2_with fail
  go_ret
  exact ⟨rfl, rfl⟩
set_option maxRecDepth 100000 in
theorem abs_m1 (w : World) : Calls Try.prog 49 #[.float .f64 13830554455654793216] w fun e w' => e = .returned (.float .f64 4607182418800017408) ∧ w' = w := by
  have e3 := bits_call 13830554455654793216
  have e4 : ∀ w : World, (callFunc 54 #[.int .u64 4607182418800017408]).run Try.prog w = .ok (.value (.float .f64 4607182418800017408)) w := frombits_call 4607182418800017408
  have e5 : bits BinOp.andNot IntKind.u64 13830554455654793216 9223372036854775808 = 4607182418800017408 := by kernel_rfl
  go_enter Try.func49, Try.ntmps49
  go_wp2_with fail
  go_ret
  exact ⟨rfl, rfl⟩
set_option maxRecDepth 100000 in
theorem abs_p0 (w : World) : Calls Try.prog 49 #[.float .f64 0] w fun e w' => e = .returned (.float .f64 0) ∧ w' = w := by
  have e3 := bits_call 0
  have e4 : ∀ w : World, (callFunc 54 #[.int .u64 0]).run Try.prog w = .ok (.value (.float .f64 0)) w := frombits_call 0
  have e5 : bits BinOp.andNot IntKind.u64 0 9223372036854775808 = 0 := by kernel_rfl
  go_enter Try.func49, Try.ntmps49
  go_wp2_with fail
  go_ret
  exact ⟨rfl, rfl⟩
set_option maxRecDepth 100000 in
theorem abs_p1 (w : World) : Calls Try.prog 49 #[.float .f64 4607182418800017408] w fun e w' => e = .returned (.float .f64 4607182418800017408) ∧ w' = w := by
  have e3 := bits_call 4607182418800017408
  have e4 : ∀ w : World, (callFunc 54 #[.int .u64 4607182418800017408]).run Try.prog w = .ok (.value (.float .f64 4607182418800017408)) w := frombits_call 4607182418800017408
  have e5 : bits BinOp.andNot IntKind.u64 4607182418800017408 9223372036854775808 = 4607182418800017408 := by kernel_rfl
  go_enter Try.func49, Try.ntmps49
  go_wp2_with fail
  go_ret
  exact ⟨rfl, rfl⟩
set_option maxRecDepth 100000 in
theorem abs_p2 (w : World) : Calls Try.prog 49 #[.float .f64 4611686018427387904] w fun e w' => e = .returned (.float .f64 4611686018427387904) ∧ w' = w := by
  have e3 := bits_call 4611686018427387904
  have e4 : ∀ w : World, (callFunc 54 #[.int .u64 4611686018427387904]).run Try.prog w = .ok (.value (.float .f64 4611686018427387904)) w := frombits_call 4611686018427387904
  have e5 : bits BinOp.andNot IntKind.u64 4611686018427387904 9223372036854775808 = 4611686018427387904 := by kernel_rfl
  go_enter Try.func49, Try.ntmps49
  go_wp2_with fail
  go_ret
  exact ⟨rfl, rfl⟩

theorem abs_fact (x : Int) (h1 : -2 ≤ x) (h2 : x ≤ 2) : ∃ F R, floatOfInt .f64 x = F ∧ (∀ w, Calls Try.prog 49 #[.float .f64 F] w fun e w' => e = .returned (.float .f64 R) ∧ w' = w) ∧ (FloatKind.f64.format.order R 4607182418800017408 == some .gt) = decide (x < -1 ∨ 1 < x) ∧ (FloatKind.f64.format.order R 4607182418800017408 == some .eq) = decide (x = -1 ∨ x = 1) := by
  have hx : x = -2 ∨ x = -1 ∨ x = 0 ∨ x = 1 ∨ x = 2 := by omega
  rcases hx with rfl | rfl | rfl | rfl | rfl
  · exact ⟨13835058055282163712, 4611686018427387904, by kernel_rfl, abs_m2, by kernel_rfl, by kernel_rfl⟩
  · exact ⟨13830554455654793216, 4607182418800017408, by kernel_rfl, abs_m1, by kernel_rfl, by kernel_rfl⟩
  · exact ⟨0, 0, by kernel_rfl, abs_p0, by kernel_rfl, by kernel_rfl⟩
  · exact ⟨4607182418800017408, 4607182418800017408, by kernel_rfl, abs_p1, by kernel_rfl, by kernel_rfl⟩
  · exact ⟨4611686018427387904, 4611686018427387904, by kernel_rfl, abs_p2, by kernel_rfl, by kernel_rfl⟩
end Go.Proofs.Ytidekgmpbcnfmaa
