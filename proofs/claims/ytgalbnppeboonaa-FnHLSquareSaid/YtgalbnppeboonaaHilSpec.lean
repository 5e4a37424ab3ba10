/- The walk of spec.HLPlace: it returns the number of the place, by recursion on the level. -/
import Derived.Test.YtgalbnppeboonaaHilEnc
namespace Go.Proofs.Ytgalbnppeboonaa
set_option linter.unusedVariables false
open Go.RowKit

theorem wrap_small (n : Int) (h1 : -9223372036854775808 ≤ n) (h2 : n ≤ 9223372036854775807) : wrap64 n = n := IntWalk.wrap64_in n ⟨h1, h2⟩

def hpI (k : Nat) (x y : Int) : Nat := Hil.hp k x.toNat y.toNat

theorem hpI_cases (k : Nat) (x y : Int) (S : Int) (hS : S = 2 ^ k) (hx : 0 ≤ x) (hy : 0 ≤ y) :
    (x < S → y < S → hpI (k + 1) x y = hpI k y x) ∧
    (x < S → S ≤ y → ((hpI (k + 1) x y : Nat) : Int) = S * S + (hpI k x (y - S) : Nat)) ∧
    (S ≤ x → S ≤ y → ((hpI (k + 1) x y : Nat) : Int) = 2 * (S * S) + (hpI k (x - S) (y - S) : Nat)) ∧
    (S ≤ x → y < S → ((hpI (k + 1) x y : Nat) : Int) = 3 * (S * S) + (hpI k (S - 1 - y) (2 * S - 1 - x) : Nat)) := by
  obtain ⟨X, rfl⟩ := Int.eq_ofNat_of_zero_le hx
  obtain ⟨Y, rfl⟩ := Int.eq_ofNat_of_zero_le hy
  have q := sq4 k
  rw [← hS] at q
  rw [Hil.pow2_int] at hS
  rw [q]
  unfold hpI
  simp only [Int.toNat_natCast, Hil.hp]
  refine ⟨fun h1 h2 => ?_, fun h1 h2 => ?_, fun h1 h2 => ?_, fun h1 h2 => ?_⟩
  · rw [if_pos (by omega), if_pos (by omega)]
  · rw [if_pos (by omega), if_neg (by omega), show ((Y : Int) - S).toNat = Y - 2 ^ k from by omega]
    omega
  · rw [if_neg (by omega), if_pos (by omega), show ((X : Int) - S).toNat = X - 2 ^ k from by omega, show ((Y : Int) - S).toNat = Y - 2 ^ k from by omega]
    omega
  · rw [if_neg (by omega), if_neg (by omega), show (S - 1 - (Y : Int)).toNat = 2 ^ k - 1 - Y from by omega, show (2 * S - 1 - (X : Int)).toNat = 2 * 2 ^ k - 1 - X from by omega]
    omega

theorem hpI_lt (k : Nat) (x y : Int) (hk : k ≤ 31) : (hpI k x y : Int) < 4611686018427387904 := by
  have h := Hil.hp_lt k x.toNat y.toNat
  have h2 : 4 ^ k ≤ 4 ^ 31 := Nat.pow_le_pow_right (by omega) hk
  rw [four31] at h2
  unfold hpI
  omega

set_option maxHeartbeats 1000000 in
theorem place_any (k : Nat) : ∀ (x y l : Int) (w : World), k ≤ 31 → l = k → 0 ≤ x → x < 2 ^ k → 0 ≤ y → y < 2 ^ k →
    Calls Try.prog 15 #[.int .i64 x, .int .i64 y, .int .i64 l] w fun e w' => e = .returned (.int .i64 (hpI k x y : Nat)) ∧ w = w' := by
  induction k with
  | zero =>
    intro x y l w _ hl _ _ _ _
    subst hl
    go_enter Try.func15, Try.ntmps15
    go_wp2_with fail
    go_ret
    exact ⟨rfl, rfl⟩
  | succ k ih =>
    intro x y l w hk hl x1 x2 y1 y2
    have H := Lib.hid ih
    clear ih
    obtain ⟨S, hS⟩ : ∃ S : Int, S = 2 ^ k := ⟨_, rfl⟩
    obtain ⟨c1, c2, c3, c4⟩ := hpI_cases k x y S hS x1 y1
    obtain ⟨s1, s2, s3, s4⟩ := side_bounds k S (by omega) (by unfold Side; simpa using hS)
    have e2 : (2 : Int) ^ (k + 1) = 2 * S := by rw [Int.pow_succ, hS]; omega
    rw [e2] at x2 y2
    have fw : wrap64 (2 ^ k) = S := by rw [← hS]; exact wrap_small _ (by omega) (by omega)
    have hl0 : (l == 0) = false := by simp; omega
    have l1 : l - 1 = k := by omega
    have l2 : 0 ≤ l := by omega
    have l3 : l ≤ 31 := by omega
    have HS := Lib.hid hS
    clear hS e2 hl
    have z := hpI_lt (k + 1) x y hk
    by_cases hx : x < S <;> by_cases hy : y < S
    · have C := Lib.hid (c1 hx hy)
      clear c1 c2 c3 c4 z
      go_enter Try.func15, Try.ntmps15
      go_wp2_with fail
      refine (H.out _ _ _ _ (by omega) rfl (by omega) (by rw [← HS.out]; omega) (by omega) (by rw [← HS.out]; omega)).mono ?_
      rintro e w' ⟨rfl, rfl⟩
      go_wp2_with fail
      go_ret
      exact ⟨ret_int (by rw [C.out]), rfl⟩
    · have c := c2 hx (by omega)
      have b : S * S + (hpI k x (y - S) : Nat) < 4611686018427387904 := by omega
      have C := Lib.hid c
      clear c1 c2 c3 c4 z c
      go_enter Try.func15, Try.ntmps15
      go_wp2_with fail
      refine (H.out _ _ _ _ (by omega) rfl (by omega) (by rw [← HS.out]; omega) (by omega) (by rw [← HS.out]; omega)).mono ?_
      rintro e w' ⟨rfl, rfl⟩
      go_wp2_with fail
      go_ret
      exact ⟨ret_int (by rw [C.out]), rfl⟩
    · have c := c4 (by omega) hy
      have b : 3 * (S * S) + (hpI k (S - 1 - y) (2 * S - 1 - x) : Nat) < 4611686018427387904 := by omega
      have C := Lib.hid c
      clear c1 c2 c3 c4 z c
      go_enter Try.func15, Try.ntmps15
      go_wp2_with fail
      refine (H.out _ _ _ _ (by omega) rfl (by omega) (by rw [← HS.out]; omega) (by omega) (by rw [← HS.out]; omega)).mono ?_
      rintro e w' ⟨rfl, rfl⟩
      go_wp2_with fail
      go_ret
      exact ⟨ret_int (by rw [C.out]), rfl⟩
    · have c := c3 (by omega) (by omega)
      have b : 2 * (S * S) + (hpI k (x - S) (y - S) : Nat) < 4611686018427387904 := by omega
      have C := Lib.hid c
      clear c1 c2 c3 c4 z c
      go_enter Try.func15, Try.ntmps15
      go_wp2_with fail
      refine (H.out _ _ _ _ (by omega) rfl (by omega) (by rw [← HS.out]; omega) (by omega) (by rw [← HS.out]; omega)).mono ?_
      rintro e w' ⟨rfl, rfl⟩
      go_wp2_with fail
      go_ret
      exact ⟨ret_int (by rw [C.out]), rfl⟩
end Go.Proofs.Ytgalbnppeboonaa
