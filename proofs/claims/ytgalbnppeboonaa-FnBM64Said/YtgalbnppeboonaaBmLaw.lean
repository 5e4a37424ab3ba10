/- The walks of impl.BM64 and of the law FnBM64: it returns true for every bitmap and bit. -/
import Derived.Test.YtgalbnppeboonaaBm
namespace Go.Proofs.Ytgalbnppeboonaa
open Go.RowKit

theorem ret_t3 {a b c a' b' c' : Value} (h1 : a = a') (h2 : b = b') (h3 : c = c') : Ending.returned (.tuple #[a, b, c]) = .returned (.tuple #[a', b', c']) := by rw [h1, h2, h3]

set_option maxHeartbeats 400000 in
theorem bm1 (a b : Int) (w : World) (h0 : 0 ≤ a) (h1 : a < 18446744073709551616) (h2 : 0 ≤ b) (h3 : b < 64) :
    Calls Try.prog 7 #[.int .u64 a, .int .i64 1, .int .u64 b] w fun e w' => e = .returned (.tuple #[.int .u64 (bits BinOp.or IntKind.u64 a (IntKind.u64.wrap (2 ^ b.toNat))), .bool false, .int .i64 0]) ∧ w = w' := by
  go_enter Try.func7, Try.ntmps7
  go_wp2_with (go_at_call 16; refine (set_any _ _ _ h0 h1 h2 h3).mono ?_; rintro e w' ⟨rfl, rfl⟩)
  go_ret3
  exact ⟨rfl, rfl⟩

set_option maxHeartbeats 400000 in
theorem bm2 (a b : Int) (w : World) (h0 : 0 ≤ a) (h1 : a < 18446744073709551616) (h2 : 0 ≤ b) (h3 : b < 64) :
    Calls Try.prog 7 #[.int .u64 a, .int .i64 2, .int .u64 b] w fun e w' => e = .returned (.tuple #[.int .u64 (bits BinOp.and IntKind.u64 a (bits BinOp.xor IntKind.u64 IntKind.u64.max (IntKind.u64.wrap (2 ^ b.toNat)))), .bool false, .int .i64 0]) ∧ w = w' := by
  go_enter Try.func7, Try.ntmps7
  go_wp2_with (go_at_call 17; refine (clear_any _ _ _ h0 h1 h2 h3).mono ?_; rintro e w' ⟨rfl, rfl⟩)
  go_ret3
  exact ⟨rfl, rfl⟩

set_option maxHeartbeats 400000 in
theorem bm3 (a b : Int) (w : World) (h0 : 0 ≤ a) (h1 : a < 18446744073709551616) (h2 : 0 ≤ b) (h3 : b < 64) :
    Calls Try.prog 7 #[.int .u64 a, .int .i64 3, .int .u64 b] w fun e w' => e = .returned (.tuple #[.int .u64 a, .bool (bits BinOp.and IntKind.u64 a (IntKind.u64.wrap (2 ^ b.toNat)) != 0), .int .i64 0]) ∧ w = w' := by
  go_enter Try.func7, Try.ntmps7
  go_wp2_with (go_at_call 18; refine (get_any _ _ _ h0 h1 h2 h3).mono ?_; rintro e w' ⟨rfl, rfl⟩)
  go_ret3
  exact ⟨rfl, rfl⟩

set_option maxHeartbeats 400000 in
theorem bm4 (x : Nat) (w : World) (h1 : x < 18446744073709551616) :
    Calls Try.prog 7 #[.int .u64 (x : Int), .int .i64 4, .int .u64 0] w fun e w' => e = .returned (.tuple #[.int .u64 (x : Int), .bool false, .int .i64 (Pop.pc 64 x : Nat)]) ∧ w = w' := by
  go_enter Try.func7, Try.ntmps7
  go_wp2_with (go_at_call 19; refine (pop_any _ _ h1).mono ?_; rintro e w' ⟨rfl, rfl⟩)
  go_ret3
  exact ⟨rfl, rfl⟩

theorem off_same (x k : Nat) (hx : x < 18446744073709551616) (hk : k < 64) :
    (bits BinOp.and IntKind.u64 (x : Int) (bits BinOp.xor IntKind.u64 IntKind.u64.max (IntKind.u64.wrap (2 ^ (k : Int).toNat))) == bits BinOp.andNot IntKind.u64 (x : Int) (IntKind.u64.wrap (2 ^ (k : Int).toNat))) = true := by
  rw [Int.toNat_natCast]
  have hp : 2 ^ k < 2 ^ 64 := Nat.pow_lt_pow_right (by omega) hk
  have e1 : IntKind.u64.wrap ((2 : Int) ^ k) = ((2 ^ k : Nat) : Int) := by
    have := wrap_nat (2 ^ k) (by simpa using hp)
    simpa using this
  rw [e1, u64_andNot_nat x (2 ^ k) hx (by simpa using hp)]
  have e2 : bits BinOp.xor IntKind.u64 IntKind.u64.max ((2 ^ k : Nat) : Int) = ((18446744073709551615 ^^^ 2 ^ k : Nat) : Int) :=
    u64_xor_nat 18446744073709551615 (2 ^ k) (by omega) (by simpa using hp)
  have e3 : 18446744073709551615 ^^^ 2 ^ k = 18446744073709551615 - 2 ^ k := by
    apply Nat.eq_of_testBit_eq
    intro j
    rw [Nat.testBit_xor, show 18446744073709551615 - 2 ^ k = 2 ^ 64 - (2 ^ k + 1) from by omega, Nat.testBit_two_pow_sub_succ hp, show (18446744073709551615 : Nat) = 2 ^ 64 - 1 from by omega, Nat.testBit_two_pow_sub_one, Nat.testBit_two_pow]
    by_cases h1 : j < 64 <;> by_cases h2 : k = j <;> simp [h1, h2] <;> omega
  have h4 : 18446744073709551615 - 2 ^ k < 18446744073709551616 := by generalize 2 ^ k = q; omega
  rw [e2, e3, u64_and_nat x _ hx h4]
  simp

theorem get_same (x k : Nat) (hx : x < 18446744073709551616) (hk : k < 64) :
    ((bits BinOp.and IntKind.u64 (x : Int) (IntKind.u64.wrap (2 ^ (k : Int).toNat)) != 0) == ((x : Int) / 2 ^ (k : Int).toNat % 2 == 1)) = true := by
  rw [Int.toNat_natCast]
  have hp : 2 ^ k < 2 ^ 64 := Nat.pow_lt_pow_right (by omega) hk
  have e1 : IntKind.u64.wrap ((2 : Int) ^ k) = ((2 ^ k : Nat) : Int) := by
    have := wrap_nat (2 ^ k) (by simpa using hp)
    simpa using this
  rw [e1, u64_and_nat x (2 ^ k) hx (by simpa using hp)]
  have e2 : (x : Int) / 2 ^ k % 2 = ((x / 2 ^ k % 2 : Nat) : Int) := by simp
  rw [e2, nat_bit]
  have hp : 0 < 2 ^ k := Nat.two_pow_pos _
  have h2 : x / 2 ^ k % 2 = 0 ∨ x / 2 ^ k % 2 = 1 := by omega
  rcases h2 with h2 | h2 <;> rw [h2]
  · simp
  · obtain ⟨q, hq⟩ : ∃ q, 2 ^ k = q + 1 := ⟨2 ^ k - 1, by omega⟩
    rw [hq]
    simp
    omega

theorem off_at (x k : Nat) (hx : x < 18446744073709551616) (hb : k < 64) :
    bits BinOp.and IntKind.u64 (x : Int) (bits BinOp.xor IntKind.u64 IntKind.u64.max (IntKind.u64.wrap (2 ^ k))) = bits BinOp.andNot IntKind.u64 (x : Int) (IntKind.u64.wrap (2 ^ k)) := by
  have := off_same x k hx hb
  rw [beq_iff_eq, Int.toNat_natCast] at this
  exact this
theorem get_at (x k : Nat) (hx : x < 18446744073709551616) (hb : k < 64) :
    (bits BinOp.and IntKind.u64 (x : Int) (IntKind.u64.wrap (2 ^ k)) != 0) = (((x : Int) / 2 ^ k).tmod 2 == 1) := by
  have := get_same x k hx hb
  rw [beq_iff_eq, Int.toNat_natCast] at this
  have e : (x : Int) / 2 ^ k = ((x / 2 ^ k : Nat) : Int) := by simp
  rw [this, Int.tmod_eq_emod_of_nonneg (by rw [e]; exact Int.natCast_nonneg _)]

set_option maxHeartbeats 1000000 in
theorem law_bm64 (x p : Nat) (w : World) (hx : x < 18446744073709551616) (_hp : p < 256) :
    Calls Try.prog 3 #[.int .u64 (x : Int), .int .u8 (p : Int)] w fun e w' => e = .returned (.bool true) ∧ w = w' := by
  have h0 : 0 ≤ (p : Int) % 64 := by omega
  have h1 : (p : Int) % 64 < 64 := by omega
  have ho := off_at x (p % 64) hx (Nat.mod_lt _ (by omega))
  have hg := get_at x (p % 64) hx (Nat.mod_lt _ (by omega))
  go_enter Try.func3, Try.ntmps3
  go_wp2_with fail
  refine (bm1 _ _ _ (by omega) (by omega) h0 h1).mono ?_
  rintro e w' ⟨rfl, rfl⟩
  go_wp2_with fail
  refine (bm2 _ _ _ (by omega) (by omega) h0 h1).mono ?_
  rintro e w' ⟨rfl, rfl⟩
  go_wp2_with fail
  refine (bm3 _ _ _ (by omega) (by omega) h0 h1).mono ?_
  rintro e w' ⟨rfl, rfl⟩
  go_wp2_with fail
  refine (bm4 _ _ hx).mono ?_
  rintro e w' ⟨rfl, rfl⟩
  go_wp2_with fail
  refine (count_any _ _ hx).mono ?_
  rintro e w' ⟨rfl, rfl⟩
  go_wp2_with fail
  go_ret
  exact ⟨rfl, rfl⟩
end Go.Proofs.Ytgalbnppeboonaa
