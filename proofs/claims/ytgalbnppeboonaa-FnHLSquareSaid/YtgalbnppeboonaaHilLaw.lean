/- The walks of the laws FnHLEncode and FnHLSquare: they return true at every input. -/
import Derived.Test.YtgalbnppeboonaaHilDec
namespace Go.Proofs.Ytgalbnppeboonaa
set_option linter.unusedVariables false
open Go.RowKit

set_option maxHeartbeats 400000 in
theorem enc_any (x y : Int) (w : World) (h1 : 0 ≤ x) (h2 : x < 2147483648) (h3 : 0 ≤ y) (h4 : y < 2147483648) :
    Calls Try.prog 10 #[.int .i32 x, .int .i32 y] w fun e w' => e = .returned (.int .i64 (hpI 31 x y : Nat)) ∧ Below w.heap.size w w' := by
  obtain ⟨X, rfl⟩ := Int.eq_ofNat_of_zero_le h1
  obtain ⟨Y, rfl⟩ := Int.eq_ofNat_of_zero_le h3
  go_enter Try.func10, Try.ntmps10
  go_wp2_with fail
  refine (encode_any X Y _ (by omega) (by omega)).mono ?_
  rintro e w' ⟨rfl, hb⟩
  go_wp2_with fail
  go_ret
  exact ⟨rfl, hb⟩

set_option maxHeartbeats 400000 in
theorem dec_any (x y : Int) (w : World) (h1 : 0 ≤ x) (h2 : x < 2147483648) (h3 : 0 ≤ y) (h4 : y < 2147483648) :
    Calls Try.prog 14 #[.int .i64 (hpI 31 x y : Nat)] w fun e w' => e = .returned (.tuple #[.int .i32 x, .int .i32 y]) ∧ Below w.heap.size w w' := by
  obtain ⟨X, rfl⟩ := Int.eq_ofNat_of_zero_le h1
  obtain ⟨Y, rfl⟩ := Int.eq_ofNat_of_zero_le h3
  go_enter Try.func14, Try.ntmps14
  go_wp2_with fail
  refine (decode_any X Y _ _ (by omega) (by omega) rfl).mono ?_
  rintro e w' ⟨rfl, hb⟩
  go_wp2_with fail
  go_ret2
  exact ⟨rfl, hb⟩

set_option maxHeartbeats 400000 in
theorem hlplace_any (x y : Int) (w : World) (h1 : 0 ≤ x) (h2 : x < 4294967296) (h3 : 0 ≤ y) (h4 : y < 4294967296) :
    Calls Try.prog 9 #[.int .u32 x, .int .u32 y] w fun e w' => e = .returned (.tuple #[.int .i32 (x / 2), .int .i32 (y / 2)]) ∧ w = w' := by
  go_enter Try.func9, Try.ntmps9
  go_wp2_with fail
  go_ret2
  exact ⟨rfl, rfl⟩

set_option maxHeartbeats 1000000 in
theorem law_enc (x y : Int) (w : World) (h1 : 0 ≤ x) (h2 : x < 4294967296) (h3 : 0 ≤ y) (h4 : y < 4294967296) :
    Calls Try.prog 6 #[.int .u32 x, .int .u32 y] w fun e w' => e = .returned (.bool true) ∧ Below w.heap.size w w' := by
  go_enter Try.func6, Try.ntmps6
  go_wp2_with fail
  refine (hlplace_any x y _ h1 h2 h3 h4).mono ?_
  rintro e w' ⟨rfl, rfl⟩
  go_wp2_with fail
  refine (enc_any _ _ _ (by omega) (by omega) (by omega) (by omega)).mono ?_
  rintro e w1 ⟨rfl, hb1⟩
  go_wp2_with fail
  refine (dec_any _ _ _ (by omega) (by omega) (by omega) (by omega)).mono ?_
  rintro e w2 ⟨rfl, hb2⟩
  go_wp2_with fail
  refine (place_any 31 _ _ _ _ (Nat.le_refl _) rfl (by omega) (by omega) (by omega) (by omega)).mono ?_
  rintro e w3 ⟨rfl, rfl⟩
  go_wp2_with fail
  go_ret
  exact ⟨rfl, hb1.trans (hb2.mono hb1.size)⟩

theorem square_fact (x y : Int) (N : Nat) (h1 : 0 ≤ x) (h2 : x < 2147483648) (h3 : 0 ≤ y) (h4 : y < 2147483648) (hN : N ≤ 31) :
    ((hpI 31 x y : Nat) : Int) < 4 ^ N ↔ (x < 2 ^ N ∧ y < 2 ^ N) := by
  obtain ⟨X, rfl⟩ := Int.eq_ofNat_of_zero_le h1
  obtain ⟨Y, rfl⟩ := Int.eq_ofNat_of_zero_le h3
  have h := Hil.hp_square N (31 - N) X Y (by rw [show N + (31 - N) = 31 from by omega]; omega) (by rw [show N + (31 - N) = 31 from by omega]; omega)
  rw [show N + (31 - N) = 31 from by omega] at h
  rw [four_int, Hil.pow2_int]
  unfold hpI
  simp only [Int.toNat_natCast]
  omega

set_option maxRecDepth 100000 in
set_option maxHeartbeats 1000000 in
theorem law_square (x y : Int) (K : Nat) (w : World) (h1 : 0 ≤ x) (h2 : x < 4294967296) (h3 : 0 ≤ y) (h4 : y < 4294967296) (hK : K < 256) :
    Calls Try.prog 4 #[.int .u32 x, .int .u32 y, .int .u8 (K : Int)] w fun e w' => e = .returned (.bool true) ∧ Below w.heap.size w w' := by
  have sq := square_fact (x / 2) (y / 2) (K % 32) (by omega) (by omega) (by omega) (by omega) (by omega)
  obtain ⟨P, hP⟩ : ∃ P : Int, P = 2 ^ (K % 32) := ⟨_, rfl⟩
  obtain ⟨Q, hQ⟩ : ∃ Q : Int, Q = 4 ^ (K % 32) := ⟨_, rfl⟩
  rw [← hP, ← hQ] at sq
  have p1 : 2 ^ (K % 32) ≤ 2 ^ 31 := Nat.pow_le_pow_right (by omega) (by omega)
  have q1 : 4 ^ (K % 32) ≤ 4 ^ 31 := Nat.pow_le_pow_right (by omega) (by omega)
  have n1 : (2 : Nat) ^ 31 = 2147483648 := by decide
  rw [n1] at p1
  rw [four31] at q1
  have fw : wrap64 (2 ^ (K % 32)) = P := by rw [← hP]; rw [Hil.pow2_int] at hP; generalize 2 ^ (K % 32) = u at hP p1; exact wrap_small _ (by omega) (by omega)
  have fq : wrap64 (2 ^ (2 * (K % 32))) = Q := by
    have e : (2 : Int) ^ (2 * (K % 32)) = Q := by rw [hQ, Int.pow_mul]; rfl
    rw [e]; rw [four_int] at hQ; generalize 4 ^ (K % 32) = u at hQ q1; exact wrap_small _ (by omega) (by omega)
  have HP := Lib.hid hP
  have HQ := Lib.hid hQ
  clear hP hQ p1 q1 n1
  by_cases c1 : x / 2 < P <;> by_cases c2 : y / 2 < P
  · have hq : ((hpI 31 (x / 2) (y / 2) : Nat) : Int) < Q := by rw [sq]; omega
    clear sq
    go_enter Try.func4, Try.ntmps4
    go_wp2_with fail
    refine (hlplace_any x y _ h1 h2 h3 h4).mono ?_
    rintro e w' ⟨rfl, rfl⟩
    go_wp2_with fail
    refine (enc_any _ _ _ (by omega) (by omega) (by omega) (by omega)).mono ?_
    rintro e w1 ⟨rfl, hb1⟩
    go_wp2_with fail
    go_ret
    exact ⟨ret_bool (by simp <;> omega), hb1⟩
  · have hq : ¬ ((hpI 31 (x / 2) (y / 2) : Nat) : Int) < Q := by rw [sq]; omega
    clear sq
    go_enter Try.func4, Try.ntmps4
    go_wp2_with fail
    refine (hlplace_any x y _ h1 h2 h3 h4).mono ?_
    rintro e w' ⟨rfl, rfl⟩
    go_wp2_with fail
    refine (enc_any _ _ _ (by omega) (by omega) (by omega) (by omega)).mono ?_
    rintro e w1 ⟨rfl, hb1⟩
    go_wp2_with fail
    go_ret
    exact ⟨ret_bool (by simp <;> omega), hb1⟩
  · have hq : ¬ ((hpI 31 (x / 2) (y / 2) : Nat) : Int) < Q := by rw [sq]; omega
    clear sq
    go_enter Try.func4, Try.ntmps4
    go_wp2_with fail
    refine (hlplace_any x y _ h1 h2 h3 h4).mono ?_
    rintro e w' ⟨rfl, rfl⟩
    go_wp2_with fail
    refine (enc_any _ _ _ (by omega) (by omega) (by omega) (by omega)).mono ?_
    rintro e w1 ⟨rfl, hb1⟩
    go_wp2_with fail
    go_ret
    exact ⟨ret_bool (by simp <;> omega), hb1⟩
  · have hq : ¬ ((hpI 31 (x / 2) (y / 2) : Nat) : Int) < Q := by rw [sq]; omega
    clear sq
    go_enter Try.func4, Try.ntmps4
    go_wp2_with fail
    refine (hlplace_any x y _ h1 h2 h3 h4).mono ?_
    rintro e w' ⟨rfl, rfl⟩
    go_wp2_with fail
    refine (enc_any _ _ _ (by omega) (by omega) (by omega) (by omega)).mono ?_
    rintro e w1 ⟨rfl, hb1⟩
    go_wp2_with fail
    go_ret
    exact ⟨ret_bool (by simp <;> omega), hb1⟩
end Go.Proofs.Ytgalbnppeboonaa
