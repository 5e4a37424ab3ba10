/- Floats of integers below 2^53: how they stand to each other, and that they give the integers again. No program in sight. -/
import Derived.Laws.FloatArith
import Derived.KernelRfl
namespace Go.Proofs.Ytmhackiiiehlmaa
open Go Ieee
/-- the float of an integer -/
theorem read_word (neg : Bool) (r : Nat) (h1 : Ieee.double.binade ≤ r) (h2 : r < Ieee.double.infRung) : Ieee.double.read (Ieee.double.word neg r) = .number neg (Ieee.double.binade + r % Ieee.double.binade) (Ieee.double.leastPlace + (r / Ieee.double.binade - 1 : Nat)) := by
  have hs : Ieee.double.signWeight = 9223372036854775808 := by decide
  have hb : Ieee.double.binade = 4503599627370496 := by decide
  have hi : Ieee.double.infRung = 9218868437227405312 := by decide
  rw [hb] at h1
  rw [hi] at h2
  have hw : Ieee.double.word neg r / Ieee.double.signWeight % 2 = neg.toNat ∧ Ieee.double.word neg r % Ieee.double.signWeight = r := by
    unfold Format.word
    rw [hs]
    cases neg
    · simp only [Bool.false_eq_true, if_false, Bool.toNat_false]; omega
    · simp only [if_true, Bool.toNat_true]; omega
  unfold Format.read
  simp only [hw.1, hw.2, hb, hi]
  rw [if_neg (by omega), if_pos h2]
  cases neg <;> rfl
/-- what an integer's float reads as -/
theorem read_int (n : Int) (h : n.natAbs < 2 ^ 53) : ∃ (s : Bool) (k : Nat), Ieee.double.read (floatOfInt .f64 n) = .number s (n.natAbs * 2 ^ k) (-(k : Int)) ∧ (n ≠ 0 → s = decide (n < 0)) := by
  by_cases h0 : n = 0
  · subst h0
    obtain ⟨k, hk⟩ : ∃ k : Nat, k = 1074 := ⟨_, rfl⟩
    refine ⟨false, k, ?_, fun h => absurd rfl h⟩
    rw [Int.natAbs_zero, Nat.zero_mul, hk]
    decide
  · have hm : n.natAbs ≠ 0 := by omega
    obtain ⟨l, hl⟩ : ∃ l, n.natAbs.log2 = l := ⟨_, rfl⟩
    have hl1 : 2 ^ l ≤ n.natAbs := by rw [← hl]; exact Nat.log2_self_le hm
    have hl2 : n.natAbs < 2 ^ (l + 1) := by rw [← hl]; exact Nat.lt_log2_self
    have hl3 : l < 53 := by
      rw [← hl]; exact (Nat.log2_lt hm).2 h
    obtain ⟨d, hd⟩ : ∃ d, l + d = 52 := ⟨52 - l, by omega⟩
    have hp : 2 ^ l * 2 ^ d = 4503599627370496 := by rw [← Nat.pow_add, hd]
    have hlow : 4503599627370496 ≤ n.natAbs * 2 ^ d := by rw [← hp]; exact Nat.mul_le_mul_right _ hl1
    have hhigh : n.natAbs * 2 ^ d < 9007199254740992 := by
      have : 2 ^ (l + 1) * 2 ^ d = 9007199254740992 := by rw [Nat.pow_succ, Nat.mul_right_comm, hp]
      rw [← this]
      exact Nat.mul_lt_mul_of_pos_right hl2 (Nat.two_pow_pos d)
    have hb : Ieee.double.binade = 4503599627370496 := by decide
    have hi : Ieee.double.infRung = 9218868437227405312 := by decide
    have hlp : Ieee.double.leastPlace = -1074 := by decide
    have hfb : Ieee.double.fractionBits = 52 := rfl
    have hx : floatOfInt .f64 n = Ieee.double.word (decide (n < 0)) ((1074 - d) * 4503599627370496 + n.natAbs * 2 ^ d) := by
      show Ieee.double.nearest (decide (n < 0)) n.natAbs 0 = _
      unfold Format.nearest
      rw [if_neg hm]
      simp only [hl, hlp, hfb, hb, hi]
      have e1 : max ((0 : Int) + (l : Int) - ((52 : Nat) : Int)) (-1074) = -(d : Int) := by omega
      rw [e1]
      have e2 : ((0 : Int) - -(d : Int)).toNat = d := by omega
      have e3 : (-(d : Int) - 0).toNat = 0 := by omega
      have e4 : (-(d : Int) - -1074).toNat = 1074 - d := by omega
      rw [e2, e3, e4]
      have e5 : Toward.even.cut (decide (n < 0)) (n.natAbs <<< d) 0 = n.natAbs * 2 ^ d := by
        unfold Toward.cut
        simp [Nat.shiftLeft_eq, Nat.mod_one]
      rw [e5]
      rw [Nat.min_eq_left (by omega)]
    refine ⟨decide (n < 0), d, ?_, fun _ => rfl⟩
    rw [hx, read_word _ _ (by rw [hb]; omega) (by rw [hi]; omega), hb, hlp]
    have e6 : 4503599627370496 + ((1074 - d) * 4503599627370496 + n.natAbs * 2 ^ d) % 4503599627370496 = n.natAbs * 2 ^ d := by omega
    have e7 : ((1074 - d) * 4503599627370496 + n.natAbs * 2 ^ d) / 4503599627370496 - 1 = 1074 - d := by omega
    rw [e6, e7]
    congr 1
    omega
theorem signed_int (n : Int) (s : Bool) (k u : Nat) (hs : n ≠ 0 → s = decide (n < 0)) : signed s (n.natAbs * 2 ^ k) u = n * (2 ^ (k + u) : Nat) := by
  unfold signed
  rw [Nat.shiftLeft_eq, Nat.mul_assoc, ← Nat.pow_add]
  by_cases h0 : n = 0
  · subst h0; cases s <;> simp
  · rw [hs h0]
    by_cases hn : n < 0
    · rw [if_pos (by simpa using hn)]
      have e : (n.natAbs : Int) = -n := by omega
      push_cast
      rw [e, Int.neg_mul, Int.neg_neg]
    · rw [if_neg (by simpa using hn)]
      have e : (n.natAbs : Int) = n := by omega
      push_cast
      rw [e]
theorem cmp_int (a b : Int) : compare a b = if a < b then .lt else if a = b then .eq else .gt := rfl
theorem compare_mul (a b : Int) (p : Nat) (hp : 0 < p) : compare (a * (p : Int)) (b * (p : Int)) = compare a b := by
  have hp' : (0 : Int) < (p : Int) := by omega
  rw [cmp_int, cmp_int]
  rcases Int.lt_trichotomy a b with h | h | h
  · rw [if_pos h, if_pos (Int.mul_lt_mul_of_pos_right h hp')]
  · subst h
    rw [if_neg (Int.lt_irrefl _), if_neg (Int.lt_irrefl _), if_pos rfl, if_pos rfl]
  · have h1 := Int.mul_lt_mul_of_pos_right h hp'
    rw [if_neg (by omega), if_neg (by omega), if_neg (by omega), if_neg (by omega)]
/-- floats of integers stand to each other as the integers do -/
theorem float_order (a b : Int) (ha : a.natAbs < 2 ^ 53) (hb : b.natAbs < 2 ^ 53) : Ieee.double.order (floatOfInt .f64 a) (floatOfInt .f64 b) = some (compare a b) := by
  obtain ⟨s, k, e1, h1⟩ := read_int a ha
  obtain ⟨t, j, e2, h2⟩ := read_int b hb
  unfold Format.order
  rw [e1, e2]
  unfold Datum.order
  simp only
  rw [signed_int a s k _ h1, signed_int b t j _ h2]
  have e3 : k + (-(k : Int) - min (-(k : Int)) (-(j : Int))).toNat = max k j := by omega
  have e4 : j + (-(j : Int) - min (-(k : Int)) (-(j : Int))).toNat = max k j := by omega
  rw [e3, e4, compare_mul _ _ _ (Nat.two_pow_pos _)]
/-- and give the integers again -/
theorem float_whole (n : Int) (h : n.natAbs < 2 ^ 53) : floatToIntVal .f64 (floatOfInt .f64 n) .i64 = some n := by
  obtain ⟨s, k, e1, h1⟩ := read_int n h
  have e2 : Ieee.Datum.toInt .zero (Ieee.double.read (floatOfInt .f64 n)) = some n := by
    rw [e1]
    unfold Datum.toInt Datum.integral
    simp only
    have e3 : (-(k : Int)).toNat = 0 := by omega
    have e4 : (- -(k : Int)).toNat = k := by omega
    rw [e3, e4]
    have e5 : Toward.zero.cut s ((n.natAbs * 2 ^ k) <<< 0) k = n.natAbs := by
      unfold Toward.cut
      simp only [Nat.shiftLeft_zero, Bool.toNat_false, Nat.add_zero]
      by_cases h0 : n.natAbs = 0
      · rw [h0]; simp
      · have h3 : k ≤ (n.natAbs * 2 ^ k).log2 := by
          refine (Nat.le_log2 (Nat.mul_ne_zero h0 (Nat.ne_of_gt (Nat.two_pow_pos k)))).2 ?_
          exact Nat.le_mul_of_pos_left _ (Nat.pos_of_ne_zero h0)
        rw [Nat.min_eq_left (by omega), Nat.shiftLeft_eq, Nat.one_mul]
        exact Nat.mul_div_cancel _ (Nat.two_pow_pos k)
    rw [e5]
    have e6 := signed_int n s 0 0 h1
    simp at e6
    simpa using e6
  unfold floatToIntVal
  rw [show FloatKind.f64.decode (floatOfInt .f64 n) = Ieee.double.read (floatOfInt .f64 n) from rfl, e2]
  have h1 : IntKind.i64.min = -9223372036854775808 := by decide
  have h2 : IntKind.i64.max = 9223372036854775807 := by decide
  simp only [h1, h2]
  rw [if_pos (by omega)]
end Go.Proofs.Ytmhackiiiehlmaa
