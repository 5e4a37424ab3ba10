/- The quotient of two small integers as floats, compared with 0.75. No program in sight. -/
import Derived.Laws.FloatArith
import Derived.KernelRfl
namespace Go.Proofs.Ytidekgmpbcnfmaa
/-- the test of package fastinteger: c items in m places are more than three quarters -/
def fiTest (c m : Nat) : Option Bool := (FloatKind.f64.format.div (floatOfInt .f64 (c : Int)) (floatOfInt .f64 (m : Int))).map fun r => FloatKind.f64.format.order r 4604930618986332160 == some .gt
theorem fi_table : ((List.range 302).all fun c => (List.range 11).all fun j => fiTest c (2 ^ j) == some (decide (3 * 2 ^ j < 4 * c))) = true := by kernel_rfl
theorem fi_float (c j : Nat) (hc : c < 302) (hj : j < 11) : ∃ r, FloatKind.f64.format.div (floatOfInt .f64 (c : Int)) (floatOfInt .f64 ((2 ^ j : Nat) : Int)) = some r ∧ (FloatKind.f64.format.order r 4604930618986332160 == some .gt) = decide (3 * 2 ^ j < 4 * c) := by
  have h := List.all_eq_true.1 (List.all_eq_true.1 fi_table c (List.mem_range.2 hc)) j (List.mem_range.2 hj)
  simp only [beq_iff_eq] at h
  unfold fiTest at h
  rw [Option.map_eq_some_iff] at h
  exact h
end Go.Proofs.Ytidekgmpbcnfmaa
