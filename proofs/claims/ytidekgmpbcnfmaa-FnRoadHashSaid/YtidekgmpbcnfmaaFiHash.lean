/- hash and roundUp of package fastinteger; masks. -/
import Derived.Test.YtidekgmpbcnfmaaFiMath
import Derived.Test.YtidekgmpbcnfmaaVMap
import Derived.Test.YtidekgmpbcnfmaaFiFloat
import Derived.Test.YtidekgmpbcnfmaaProg
import Derived.Test.YtidekgmpbcnfmaaRow
import Derived.WalkKit
import Derived.Outline
import Derived.Deep.LoopGhost
namespace Go.Proofs.Ytidekgmpbcnfmaa
set_option linter.unusedVariables false
open Go.RowKit

theorem u64_and_mask (x : Int) (j : Nat) (hj : j ≤ 32) : bits .and .u64 x (((2 ^ j : Nat) : Int) - 1) = (((BitVec.ofInt 64 x).toNat % 2 ^ j : Nat) : Int) := by
  have h2 : 2 ^ j ≤ 2 ^ 32 := Nat.pow_le_pow_right (by decide) hj
  have h1 : 0 < 2 ^ j := Nat.pow_pos (by decide)
  have e : ((2 ^ j : Nat) : Int) - 1 = ((2 ^ j - 1 : Nat) : Int) := by omega
  have e2 : (BitVec.ofInt 64 ((2 ^ j - 1 : Nat) : Int)).toNat = 2 ^ j - 1 := by
    rw [BitVec.ofInt_natCast, BitVec.toNat_ofNat]
    exact Nat.mod_eq_of_lt (by omega)
  have hn : ((BitVec.ofInt 64 x) &&& (BitVec.ofInt 64 ((2 ^ j - 1 : Nat) : Int))).toNat = (BitVec.ofInt 64 x).toNat % 2 ^ j := by
    rw [BitVec.toNat_and, e2, Nat.and_two_pow_sub_one_eq_mod]
  have hb : bits .and .u64 x ((2 ^ j - 1 : Nat) : Int) = IntKind.u64.wrap (((BitVec.ofInt 64 x) &&& (BitVec.ofInt 64 ((2 ^ j - 1 : Nat) : Int))).toNat : Int) := rfl
  rw [e, hb, hn]
  have hlt : (BitVec.ofInt 64 x).toNat % 2 ^ j < 2 ^ j := Nat.mod_lt _ h1
  obtain ⟨z, hz⟩ : ∃ z, (BitVec.ofInt 64 x).toNat % 2 ^ j = z := ⟨_, rfl⟩
  rw [hz] at hlt ⊢
  simp only [IntKind.wrap, IntKind.bits, IntKind.signed]
  simp
  omega
theorem u64_and_nat (n j : Nat) (hj : j ≤ 32) (hn : n < 18446744073709551616) : bits .and .u64 (n : Int) (((2 ^ j : Nat) : Int) - 1) = ((n % 2 ^ j : Nat) : Int) := by
  rw [u64_and_mask _ _ hj, BitVec.ofInt_natCast, BitVec.toNat_ofNat, Nat.mod_eq_of_lt hn]

set_option maxHeartbeats 400000 in
theorem fihash_ex : ∃ F : Int → Int, ∀ (k : Int) (w : World),
    Calls Try.prog 53 #[.int .u64 k] w fun e w' => e = .returned (.int .u64 (F k)) ∧ w = w' := by
  apply Exists.intro
  intro k w
  go_enter Try.func53, Try.ntmps53
  go_wp2
  go_ret
  exact ⟨rfl, rfl⟩
theorem fihome_ex : ∃ F : Int → Nat, ∀ (k : Int), ∃ x : Int, (∀ w : World, Calls Try.prog 53 #[.int .u64 k] w fun e w' => e = .returned (.int .u64 x) ∧ w = w') ∧
    ∀ j, j ≤ 32 → bits .and .u64 x (((2 ^ j : Nat) : Int) - 1) = ((F k % 2 ^ j : Nat) : Int) := by
  obtain ⟨F, hF⟩ := fihash_ex
  exact ⟨fun k => (BitVec.ofInt 64 (F k)).toNat, fun k => ⟨F k, hF k, fun j hj => u64_and_mask _ _ hj⟩⟩

def orsh (v s : Int) : Int := bits .or .u64 v (v / s)
def rup (n : Int) : Int := IntKind.u64.wrap (orsh (orsh (orsh (orsh (orsh (orsh (n - 1) 2) 4) 16) 256) 65536) 4294967296 + 1)
theorem rup_table : ((List.range 1026).all fun n => n == 0 || (List.range 12).any fun j => rup (n : Int) == ((2 ^ j : Nat) : Int) && decide (n ≤ 2 ^ j) && decide (2 ^ j < 2 * n)) = true := by kernel_rfl
theorem rup_pow (n : Nat) (h1 : 1 ≤ n) (h2 : n ≤ 1025) : ∃ j, j < 12 ∧ rup (n : Int) = ((2 ^ j : Nat) : Int) ∧ n ≤ 2 ^ j ∧ 2 ^ j < 2 * n := by
  have h := List.all_eq_true.1 rup_table n (List.mem_range.2 (by omega))
  have h0 : (n == 0) = false := by simp; omega
  rw [h0, Bool.false_or, List.any_eq_true] at h
  obtain ⟨j, hj, hh⟩ := h
  simp only [Bool.and_eq_true, beq_iff_eq, decide_eq_true_eq] at hh
  exact ⟨j, List.mem_range.1 hj, hh.1.1, hh.1.2, hh.2⟩
theorem roundup_any (n : Nat) (w : World) (h1 : 1 ≤ n) (h2 : n ≤ 1025) :
    Calls Try.prog 32 #[.int .u64 (n : Int)] w fun e w' => e = .returned (.int .u64 (rup (n : Int))) ∧ w = w' := by
  go_enter Try.func32, Try.ntmps32
  go_wp2_with fail
  go_ret
  exact ⟨rfl, rfl⟩
end Go.Proofs.Ytidekgmpbcnfmaa
