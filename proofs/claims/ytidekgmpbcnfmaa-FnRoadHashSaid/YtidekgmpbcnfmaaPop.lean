/- Plain law: the parallel count of the bits of a 64-bit number is the sum of its bits. No program in sight. -/
import Derived.Laws.BitsAllLaws
namespace Go.Proofs.Ytidekgmpbcnfmaa.Pop
set_option linter.unusedVariables false

/-- how many of the lowest f bits of x are set -/
def pc : Nat → Nat → Nat
  | 0, _ => 0
  | f + 1, x => x % 2 + pc f (x / 2)

theorem pc_zero (f : Nat) : pc f 0 = 0 := by
  induction f with
  | zero => rfl
  | succ f ih => simp [pc, ih]

theorem pc_le (f x : Nat) : pc f x ≤ f := by
  induction f generalizing x with
  | zero => simp [pc]
  | succ f ih => have := ih (x / 2); simp only [pc]; omega

theorem pc_add (a b x : Nat) : pc (a + b) x = pc a x + pc b (x / 2 ^ a) := by
  induction a generalizing x with
  | zero => simp [pc]
  | succ a ih =>
    rw [show a + 1 + b = (a + b) + 1 from by omega]
    simp only [pc]
    rw [ih, Nat.div_div_eq_div_mul, Nat.pow_succ, Nat.mul_comm 2 (2 ^ a)]
    omega

def rep (B m : Nat) : Nat → Nat
  | 0 => 0
  | n + 1 => m + B * rep B m n

theorem and_lane (k lo hi m r : Nat) (h1 : lo < 2 ^ k) (h2 : m < 2 ^ k) :
    (lo + 2 ^ k * hi) &&& (m + 2 ^ k * r) = (lo &&& m) + 2 ^ k * (hi &&& r) := by
  have h3 : lo &&& m < 2 ^ k := Nat.lt_of_le_of_lt Nat.and_le_left h1
  apply Nat.eq_of_testBit_eq
  intro j
  rw [Nat.add_comm lo, Nat.add_comm m, Nat.add_comm (lo &&& m), Nat.testBit_and, Nat.testBit_two_pow_mul_add _ h1, Nat.testBit_two_pow_mul_add _ h2, Nat.testBit_two_pow_mul_add _ h3]
  split
  · rw [Nat.testBit_and]
  · rw [Nat.testBit_and]

theorem and_mod2 (x : Nat) : x % 4 &&& 1 = x % 2 := by
  rw [Nat.and_one_is_mod]; omega

/-- two bits a lane -/
def c2 : Nat → Nat → Nat
  | 0, _ => 0
  | n + 1, x => (x % 2 + x / 2 % 2) + 4 * c2 n (x / 4)

theorem step1 (n x : Nat) (h : x < 4 ^ n) : (x / 2 &&& rep 4 1 n) + c2 n x = x := by
  induction n generalizing x with
  | zero => have : x = 0 := by simpa using h
            subst this; simp [rep, c2]
  | succ n ih =>
    have hx : x / 4 < 4 ^ n := by rw [Nat.pow_succ] at h; omega
    have e : x / 2 = x / 2 % 4 + 2 ^ 2 * (x / 4 / 2) := by omega
    have a := and_lane 2 (x / 2 % 4) (x / 4 / 2) 1 (rep 4 1 n) (by omega) (by omega)
    rw [← e] at a
    have i := ih (x / 4) hx
    rw [and_mod2] at a
    simp only [rep, c2]
    have e2 : (1 + 4 * rep 4 1 n) = 1 + 2 ^ 2 * rep 4 1 n := rfl
    rw [e2, a]
    omega

theorem c2_lt (n x : Nat) : c2 n x < 4 ^ n := by
  induction n generalizing x with
  | zero => simp [c2]
  | succ n ih => have := ih (x / 4); simp only [c2]; rw [Nat.pow_succ]; omega

/-- four bits a lane -/
def c4 : Nat → Nat → Nat
  | 0, _ => 0
  | n + 1, x => (x % 2 + x / 2 % 2 + (x / 4 % 2 + x / 8 % 2)) + 16 * c4 n (x / 16)

theorem and3_le (x : Nat) (h : x ≤ 3) : x &&& 3 = x := by
  have : x = 0 ∨ x = 1 ∨ x = 2 ∨ x = 3 := by omega
  rcases this with rfl | rfl | rfl | rfl <;> rfl

theorem and3_lanes (a b : Nat) (ha : a ≤ 3) : (a + 4 * b) &&& 3 = a := by
  have := and_lane 2 a b 3 0 (by omega) (by omega)
  rw [and3_le a ha] at this
  simpa using this

theorem step2 (n x : Nat) : (c2 (2 * n) x / 4 &&& rep 16 3 n) + (c2 (2 * n) x &&& rep 16 3 n) = c4 n x := by
  induction n generalizing x with
  | zero => simp [rep, c2, c4]
  | succ n ih =>
    have i := ih (x / 16)
    have e : c2 (2 * (n + 1)) x = (x % 2 + x / 2 % 2) + 4 * (x / 4 % 2 + x / 8 % 2) + 16 * c2 (2 * n) (x / 16) := by
      show c2 (2 * n + 1 + 1) x = _
      simp only [c2]
      simp only [Nat.div_div_eq_div_mul, Nat.reduceMul]
      omega
    generalize hA : x % 2 + x / 2 % 2 = A at e
    generalize hB : x / 4 % 2 + x / 8 % 2 = B at e
    have hA' : A ≤ 2 := by omega
    have hB' : B ≤ 2 := by omega
    generalize hC : c2 (2 * n) (x / 16) = C at e i
    have m1 := and_lane 4 (A + 4 * B) C 3 (rep 16 3 n) (by omega) (by omega)
    rw [and3_lanes A B (by omega)] at m1
    have m2 := and_lane 4 (B + 4 * (C % 4)) (C / 4) 3 (rep 16 3 n) (by omega) (by omega)
    rw [and3_lanes B (C % 4) (by omega)] at m2
    have e1 : c2 (2 * (n + 1)) x = (A + 4 * B) + 2 ^ 4 * C := by omega
    have e2 : c2 (2 * (n + 1)) x / 4 = (B + 4 * (C % 4)) + 2 ^ 4 * (C / 4) := by omega
    rw [e2, e1]
    simp only [rep, c4]
    have e3 : (3 + 16 * rep 16 3 n) = 3 + 2 ^ 4 * rep 16 3 n := rfl
    rw [e3, m1, m2, hA, hB]
    omega

/-- eight bits a lane -/
def c8 : Nat → Nat → Nat
  | 0, _ => 0
  | n + 1, x => pc 8 x + 256 * c8 n (x / 256)

theorem pc4 (x : Nat) : pc 4 x = x % 2 + x / 2 % 2 + (x / 4 % 2 + x / 8 % 2) := by
  simp only [pc, Nat.div_div_eq_div_mul]; omega

theorem pc8 (x : Nat) : pc 8 x = pc 4 x + pc 4 (x / 16) := pc_add 4 4 x

theorem and15_lanes (a b : Nat) (ha : a ≤ 8) : (a + 16 * b) &&& 15 = a := by
  have := and_lane 4 a b 15 0 (by omega) (by omega)
  have h : a &&& 15 = a := Nat.and_two_pow_sub_one_of_lt_two_pow (n := 4) (by omega)
  rw [h] at this
  simpa using this

theorem c4_low (n x : Nat) : c4 n x % 16 ≤ 4 := by
  cases n with
  | zero => simp [c4]
  | succ n =>
    simp only [c4]
    rw [Nat.add_mul_mod_self_left]
    have h : x % 2 + x / 2 % 2 + (x / 4 % 2 + x / 8 % 2) ≤ 4 := by omega
    exact Nat.le_trans (Nat.mod_le _ _) h

theorem step3 (n x : Nat) : (c4 (2 * n) x + c4 (2 * n) x / 16) &&& rep 256 15 n = c8 n x := by
  induction n generalizing x with
  | zero => simp [rep, c8]
  | succ n ih =>
    have i := ih (x / 256)
    have e : c4 (2 * (n + 1)) x = pc 4 x + 16 * pc 4 (x / 16) + 256 * c4 (2 * n) (x / 256) := by
      show c4 (2 * n + 1 + 1) x = _
      simp only [c4]
      rw [pc4, pc4]
      simp only [Nat.div_div_eq_div_mul, Nat.reduceMul]
      omega
    have l1 := pc_le 4 x
    have l2 := pc_le 4 (x / 16)
    have l3 := c4_low (2 * n) (x / 256)
    generalize hC : c4 (2 * n) (x / 256) = C at e i l3
    simp only [c8, pc8]
    generalize pc 4 x = A at *
    generalize pc 4 (x / 16) = B at *
    have m1 := and_lane 8 (A + B + 16 * (B + C % 16)) (C + C / 16) 15 (rep 256 15 n) (by omega) (by omega)
    rw [and15_lanes (A + B) _ (by omega), i] at m1
    have e1 : c4 (2 * (n + 1)) x + c4 (2 * (n + 1)) x / 16 = (A + B + 16 * (B + C % 16)) + 2 ^ 8 * (C + C / 16) := by omega
    rw [e1]
    simp only [rep]
    have e3 : (15 + 256 * rep 256 15 n) = 15 + 2 ^ 8 * rep 256 15 n := rfl
    rw [e3, m1]

theorem top (a s q T : Nat) (ha : a < 72057594037927936) (hs : s < 256) (hT : T = a + 72057594037927936 * s + 18446744073709551616 * q) :
    T % 18446744073709551616 / 72057594037927936 % 256 = s := by
  have e1 : T % 18446744073709551616 = a + 72057594037927936 * s := by
    rw [hT, Nat.add_mul_mod_self_left]
    exact Nat.mod_eq_of_lt (by omega)
  have e2 : (a + 72057594037927936 * s) / 72057594037927936 = s := by
    rw [Nat.add_mul_div_left _ _ (by omega), Nat.div_eq_of_lt ha, Nat.zero_add]
  rw [e1, e2, Nat.mod_eq_of_lt hs]

theorem step4 (x : Nat) : c8 8 x * 72340172838076673 % 18446744073709551616 / 72057594037927936 % 256 = pc 64 x := by
  have h : pc 64 x = pc 8 x + (pc 8 (x / 256) + (pc 8 (x / 65536) + (pc 8 (x / 16777216) + (pc 8 (x / 4294967296) + (pc 8 (x / 1099511627776) + (pc 8 (x / 281474976710656) + pc 8 (x / 72057594037927936))))))) := by
    rw [show (64 : Nat) = 8 + 56 from rfl, pc_add, show (56 : Nat) = 8 + 48 from rfl, pc_add, show (48 : Nat) = 8 + 40 from rfl, pc_add, show (40 : Nat) = 8 + 32 from rfl, pc_add, show (32 : Nat) = 8 + 24 from rfl, pc_add, show (24 : Nat) = 8 + 16 from rfl, pc_add, show (16 : Nat) = 8 + 8 from rfl, pc_add]
    simp only [Nat.div_div_eq_div_mul, Nat.reducePow, Nat.reduceMul]
  rw [h]
  simp only [c8, Nat.div_div_eq_div_mul, Nat.reduceMul]
  have l0 := pc_le 8 x
  have l1 := pc_le 8 (x / 256)
  have l2 := pc_le 8 (x / 65536)
  have l3 := pc_le 8 (x / 16777216)
  have l4 := pc_le 8 (x / 4294967296)
  have l5 := pc_le 8 (x / 1099511627776)
  have l6 := pc_le 8 (x / 281474976710656)
  have l7 := pc_le 8 (x / 72057594037927936)
  generalize pc 8 x = b0 at *
  generalize pc 8 (x / 256) = b1 at *
  generalize pc 8 (x / 65536) = b2 at *
  generalize pc 8 (x / 16777216) = b3 at *
  generalize pc 8 (x / 4294967296) = b4 at *
  generalize pc 8 (x / 1099511627776) = b5 at *
  generalize pc 8 (x / 281474976710656) = b6 at *
  generalize pc 8 (x / 72057594037927936) = b7 at *
  clear h
  apply top (b0 + 256 * (b0 + b1) + 65536 * (b0 + b1 + b2) + 16777216 * (b0 + b1 + b2 + b3) + 4294967296 * (b0 + b1 + b2 + b3 + b4) + 1099511627776 * (b0 + b1 + b2 + b3 + b4 + b5) + 281474976710656 * (b0 + b1 + b2 + b3 + b4 + b5 + b6)) _
    ((b1 + b2 + b3 + b4 + b5 + b6 + b7) + 256 * (b2 + b3 + b4 + b5 + b6 + b7) + 65536 * (b3 + b4 + b5 + b6 + b7) + 16777216 * (b4 + b5 + b6 + b7) + 4294967296 * (b5 + b6 + b7) + 1099511627776 * (b6 + b7) + 281474976710656 * b7)
  · omega
  · omega
  · omega

theorem swar (x : Nat) (h : x < 18446744073709551616) :
    ((((x - (x / 2 &&& 6148914691236517205)) / 4 &&& 3689348814741910323) + ((x - (x / 2 &&& 6148914691236517205)) &&& 3689348814741910323)
      + (((x - (x / 2 &&& 6148914691236517205)) / 4 &&& 3689348814741910323) + ((x - (x / 2 &&& 6148914691236517205)) &&& 3689348814741910323)) / 16) &&& 1085102592571150095) * 72340172838076673 % 18446744073709551616 / 72057594037927936 % 256 = pc 64 x := by
  have r1 : rep 4 1 32 = 6148914691236517205 := by decide
  have r2 : rep 16 3 16 = 3689348814741910323 := by decide
  have r3 : rep 256 15 8 = 1085102592571150095 := by decide
  have s1 := step1 32 x (by simpa using h)
  have e1 : x - (x / 2 &&& 6148914691236517205) = c2 32 x := by rw [r1] at s1; omega
  have s2 := step2 16 x
  rw [r2] at s2
  have s3 := step3 8 x
  rw [r3] at s3
  rw [e1, s2, s3, step4]

theorem c4_le (n x : Nat) : c4 n x < 16 ^ n := by
  induction n generalizing x with
  | zero => simp [c4]
  | succ n ih => have := ih (x / 16); simp only [c4]; rw [Nat.pow_succ]; omega

theorem c8_le (n x : Nat) : c8 n x < 256 ^ n := by
  induction n generalizing x with
  | zero => simp [c8]
  | succ n ih => have := ih (x / 256); have := pc_le 8 x; simp only [c8]; rw [Nat.pow_succ]; omega

end Go.Proofs.Ytidekgmpbcnfmaa.Pop
