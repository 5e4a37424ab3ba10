/- Plain laws on the bit operations of int64 at numbers that are not negative. No program in sight. -/
import Derived.Laws.BitsAllLaws
namespace Go.Proofs.YtgifbdjifmoafaaGreat
set_option linter.unusedVariables false

theorem ofInt_i64 (a : Nat) (ha : a < 9223372036854775808) : (BitVec.ofInt 64 (a : Int)).toNat = a := by
  rw [BitVec.ofInt_natCast, BitVec.toNat_ofNat]; exact Nat.mod_eq_of_lt (by omega)
theorem wrap_i64_nat (a : Nat) (ha : a < 9223372036854775808) : IntKind.i64.wrap (a : Int) = (a : Int) := by
  simp [IntKind.wrap, IntKind.bits, IntKind.signed]
  omega
theorem i64_and_nat (a b : Nat) (ha : a < 9223372036854775808) (hb : b < 9223372036854775808) : bits .and .i64 (a : Int) (b : Int) = ((a &&& b : Nat) : Int) := by
  have hx : a &&& b < 2 ^ 63 := Nat.and_lt_two_pow _ (by omega)
  show IntKind.i64.wrap ((BitVec.ofInt 64 (a : Int) &&& BitVec.ofInt 64 (b : Int)).toNat : Int) = _
  rw [BitVec.toNat_and, ofInt_i64 a ha, ofInt_i64 b hb]
  exact wrap_i64_nat _ (by omega)
theorem i64_xor_nat (a b : Nat) (ha : a < 9223372036854775808) (hb : b < 9223372036854775808) : bits .xor .i64 (a : Int) (b : Int) = ((a ^^^ b : Nat) : Int) := by
  have hx : a ^^^ b < 2 ^ 63 := Nat.xor_lt_two_pow (by omega) (by omega)
  show IntKind.i64.wrap ((BitVec.ofInt 64 (a : Int) ^^^ BitVec.ofInt 64 (b : Int)).toNat : Int) = _
  rw [BitVec.toNat_xor, ofInt_i64 a ha, ofInt_i64 b hb]
  exact wrap_i64_nat _ (by omega)
theorem i64_or_nat (a b : Nat) (ha : a < 9223372036854775808) (hb : b < 9223372036854775808) : bits .or .i64 (a : Int) (b : Int) = ((a ||| b : Nat) : Int) := by
  have hx : a ||| b < 2 ^ 63 := Nat.or_lt_two_pow (by omega) (by omega)
  show IntKind.i64.wrap ((BitVec.ofInt 64 (a : Int) ||| BitVec.ofInt 64 (b : Int)).toNat : Int) = _
  rw [BitVec.toNat_or, ofInt_i64 a ha, ofInt_i64 b hb]
  exact wrap_i64_nat _ (by omega)

/-- the lowest bit -/
theorem i64_one_and (v : Int) (h0 : 0 ≤ v) (h1 : v ≤ 9223372036854775807) : bits .and .i64 1 v = v % 2 := by
  obtain ⟨n, rfl⟩ := Int.eq_ofNat_of_zero_le h0
  have := i64_and_nat 1 n (by omega) (by omega)
  rw [Nat.and_comm, Nat.and_one_is_mod] at this
  exact this.trans (by omega)
theorem xor_zero_i64 (v : Int) (h0 : 0 ≤ v) (h1 : v ≤ 9223372036854775807) : bits .xor .i64 v 0 = v := by
  obtain ⟨n, rfl⟩ := Int.eq_ofNat_of_zero_le h0
  have := i64_xor_nat n 0 (by omega) (by omega)
  rw [Nat.xor_zero] at this
  exact this
theorem xor_one_parity (n : Nat) : (n ^^^ 1) % 2 = 1 - n % 2 := by
  have e := Nat.testBit_xor (x := n) (y := 1) (i := 0)
  rw [Nat.testBit_zero, Nat.testBit_zero, Nat.testBit_zero] at e
  have h : n % 2 = 0 ∨ n % 2 = 1 := by omega
  have h2 : (n ^^^ 1) % 2 = 0 ∨ (n ^^^ 1) % 2 = 1 := by omega
  rcases h with h | h <;> rcases h2 with h2 | h2 <;> simp [h, h2] at e <;> omega
theorem i64_one_and_xor (v : Int) (h0 : 0 ≤ v) (h1 : v ≤ 9223372036854775807) : bits .and .i64 1 (bits .xor .i64 v 1) = 1 - v % 2 := by
  obtain ⟨n, rfl⟩ := Int.eq_ofNat_of_zero_le h0
  have hx : n ^^^ 1 < 2 ^ 63 := Nat.xor_lt_two_pow (by omega) (by omega)
  have := i64_xor_nat n 1 (by omega) (by omega)
  have e2 : bits .xor .i64 (n : Int) 1 = ((n ^^^ 1 : Nat) : Int) := this
  rw [e2, i64_one_and _ (by omega) (by omega)]
  have := xor_one_parity n
  omega

end Go.Proofs.YtgifbdjifmoafaaGreat
