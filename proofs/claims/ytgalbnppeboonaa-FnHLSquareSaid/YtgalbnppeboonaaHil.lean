/- Plain law: the Hilbert curve by recursion on quarters, and the two loops that go along it. No program in sight. -/
import Derived.Laws.BitsAllLaws
namespace Go.Proofs.Ytgalbnppeboonaa.Hil
set_option linter.unusedVariables false

/-- the number of a place of the square of 2^k places a side -/
def hp : Nat → Nat → Nat → Nat
  | 0, _, _ => 0
  | k + 1, x, y =>
    if x < 2 ^ k then (if y < 2 ^ k then hp k y x else 4 ^ k + hp k x (y - 2 ^ k))
    else if 2 ^ k ≤ y then 2 * 4 ^ k + hp k (x - 2 ^ k) (y - 2 ^ k) else 3 * 4 ^ k + hp k (2 ^ k - 1 - y) (2 * 2 ^ k - 1 - x)

theorem hp_lt (k : Nat) : ∀ x y, hp k x y < 4 ^ k := by
  induction k with
  | zero => intro x y; simp [hp]
  | succ k ih =>
    intro x y
    have a := ih y x
    have b := ih x (y - 2 ^ k)
    have c := ih (x - 2 ^ k) (y - 2 ^ k)
    have d := ih (2 ^ k - 1 - y) (2 * 2 ^ k - 1 - x)
    have e : 4 ^ (k + 1) = 4 * 4 ^ k := by rw [Nat.pow_succ, Nat.mul_comm]
    simp only [hp]
    rw [e]
    generalize 4 ^ k = q at *
    split
    · split <;> omega
    · split <;> omega

/-- the place of 2^n places a side is where the number is below 4^n -/
theorem hp_square (n : Nat) : ∀ (d x y : Nat), x < 2 ^ (n + d) → y < 2 ^ (n + d) → (hp (n + d) x y < 4 ^ n ↔ (x < 2 ^ n ∧ y < 2 ^ n)) := by
  intro d
  induction d with
  | zero => intro x y hx hy; exact ⟨fun _ => ⟨hx, hy⟩, fun _ => hp_lt _ _ _⟩
  | succ d ih =>
    intro x y hx hy
    have m4 : 4 ^ n ≤ 4 ^ (n + d) := Nat.pow_le_pow_right (by omega) (by omega)
    have m2 : 2 ^ n ≤ 2 ^ (n + d) := Nat.pow_le_pow_right (by omega) (by omega)
    rw [show n + (d + 1) = (n + d) + 1 from by omega] at hx hy ⊢
    rw [Nat.pow_succ] at hx hy
    simp only [hp]
    split
    · rename_i h1
      split
      · rename_i h2
        rw [ih y x h2 h1]
        exact And.comm
      · rename_i h2
        constructor
        · intro h; omega
        · intro h; omega
    · rename_i h1
      split
      · constructor
        · intro h; omega
        · intro h; omega
      · constructor
        · intro h; omega
        · intro h; omega

/-- the first loop: what is still to be added, of numbers of which the lowest k bits alone count -/
def rest (k : Nat) (x y : Int) : Nat := hp k (x % 2 ^ k).toNat (y % 2 ^ k).toNat

theorem pow2_int (k : Nat) : ((2 : Int) ^ k) = ((2 ^ k : Nat) : Int) := by simp
theorem pow2_pos (k : Nat) : (0 : Int) < 2 ^ k := by rw [pow2_int]; have := Nat.two_pow_pos k; omega

/-- x mod 2^(k+1) out of its highest bit and the rest -/
theorem split_mod (k : Nat) (x : Int) : x % 2 ^ (k + 1) = x % 2 ^ k + 2 ^ k * (x / 2 ^ k % 2) := by
  have p := pow2_pos k
  have h := Int.emod_add_mul_ediv x (2 ^ k)
  have h2 := Int.emod_add_mul_ediv (x / 2 ^ k) 2
  have e : (2 : Int) ^ (k + 1) = 2 ^ k * 2 := Int.pow_succ _ _
  have l1 := Int.emod_nonneg x (Int.ne_of_gt p)
  have l2 := Int.emod_lt_of_pos x p
  have hx : x = (x % 2 ^ k + 2 ^ k * (x / 2 ^ k % 2)) + 2 ^ (k + 1) * (x / 2 ^ k / 2) := by
    rw [e, Int.mul_assoc]
    calc x = x % 2 ^ k + 2 ^ k * (x / 2 ^ k) := h.symm
      _ = x % 2 ^ k + 2 ^ k * (x / 2 ^ k % 2 + 2 * (x / 2 ^ k / 2)) := by rw [h2]
      _ = _ := by rw [Int.mul_add]; omega
  have hb : x / 2 ^ k % 2 = 0 ∨ x / 2 ^ k % 2 = 1 := by omega
  conv => lhs; rw [hx]
  rw [Int.add_mul_emod_self_left]
  apply Int.emod_eq_of_lt
  · rcases hb with b | b <;> rw [b] <;> omega
  · rw [e]; rcases hb with b | b <;> rw [b] <;> omega

theorem mod_bounds (k : Nat) (x : Int) : 0 ≤ x % 2 ^ k ∧ x % 2 ^ k < 2 ^ k :=
  ⟨Int.emod_nonneg x (Int.ne_of_gt (pow2_pos k)), Int.emod_lt_of_pos x (pow2_pos k)⟩

theorem flip_mod (k : Nat) (x : Int) : (2 ^ k - 1 - x) % 2 ^ k = 2 ^ k - 1 - x % 2 ^ k := by
  have p := pow2_pos k
  have b := mod_bounds k x
  have h := Int.emod_add_mul_ediv x (2 ^ k)
  have e : 2 ^ k - 1 - x = (2 ^ k - 1 - x % 2 ^ k) + 2 ^ k * (-(x / 2 ^ k)) := by
    rw [Int.mul_neg]; omega
  rw [e, Int.add_mul_emod_self_left]
  exact Int.emod_eq_of_lt (by omega) (by omega)

theorem rest00 (k : Nat) (x y : Int) (hx : x / 2 ^ k % 2 = 0) (hy : y / 2 ^ k % 2 = 0) : rest (k + 1) x y = rest k y x := by
  have bx := mod_bounds k x
  have b_y := mod_bounds k y
  unfold rest
  rw [split_mod k x, split_mod k y, hx, hy, Int.mul_zero, Int.add_zero, Int.add_zero]
  have p := pow2_int k
  rw [p] at bx b_y ⊢
  simp only [hp]
  rw [if_pos (by omega), if_pos (by omega)]

theorem rest01 (k : Nat) (x y : Int) (hx : x / 2 ^ k % 2 = 0) (hy : y / 2 ^ k % 2 = 1) : rest (k + 1) x y = 4 ^ k + rest k x y := by
  have bx := mod_bounds k x
  have b_y := mod_bounds k y
  unfold rest
  rw [split_mod k x, split_mod k y, hx, hy, Int.mul_zero, Int.add_zero, Int.mul_one]
  have p := pow2_int k
  rw [p] at bx b_y ⊢
  simp only [hp]
  rw [if_pos (by omega), if_neg (by omega)]
  congr 2
  omega

theorem rest11 (k : Nat) (x y : Int) (hx : x / 2 ^ k % 2 = 1) (hy : y / 2 ^ k % 2 = 1) : rest (k + 1) x y = 2 * 4 ^ k + rest k x y := by
  have bx := mod_bounds k x
  have b_y := mod_bounds k y
  unfold rest
  rw [split_mod k x, split_mod k y, hx, hy, Int.mul_one]
  have p := pow2_int k
  rw [p] at bx b_y ⊢
  simp only [hp]
  rw [if_neg (by omega), if_pos (by omega)]
  congr 2 <;> omega

theorem rest10 (k : Nat) (x y : Int) (hx : x / 2 ^ k % 2 = 1) (hy : y / 2 ^ k % 2 = 0) : rest (k + 1) x y = 3 * 4 ^ k + rest k (2 ^ k - 1 - y) (2 ^ k - 1 - x) := by
  have bx := mod_bounds k x
  have b_y := mod_bounds k y
  unfold rest
  rw [flip_mod, flip_mod, split_mod k x, split_mod k y, hx, hy, Int.mul_zero, Int.add_zero, Int.mul_one]
  have p := pow2_int k
  rw [p] at bx b_y ⊢
  simp only [hp]
  rw [if_neg (by omega), if_neg (by omega)]
  congr 2 <;> omega

/-- one bit of a number of 32 bits with a sign -/
theorem and_bit_i32 (k : Nat) (x : Int) (hk : k < 31) (h1 : -2147483648 ≤ x) (h2 : x ≤ 2147483647) :
    bits .and .i32 x (2 ^ k) = x / 2 ^ k % 2 * 2 ^ k := by
  have hp : 2 ^ k ≤ 2 ^ 30 := Nat.pow_le_pow_right (by omega) (by omega)
  have h30 : (2 : Nat) ^ 30 = 1073741824 := by decide
  rw [h30] at hp
  show IntKind.i32.wrap ((BitVec.ofInt 32 x &&& BitVec.ofInt 32 (2 ^ k)).toNat : Int) = _
  obtain ⟨X, hX⟩ : ∃ X : Nat, (X : Int) = x % 4294967296 := ⟨(x % 4294967296).toNat, by omega⟩
  have e1 : (BitVec.ofInt 32 x).toNat = X := by
    rw [BitVec.toNat_ofInt]
    show (x % 4294967296).toNat = X
    omega
  have e2 : (BitVec.ofInt 32 ((2 : Int) ^ k)).toNat = 2 ^ k := by
    rw [BitVec.toNat_ofInt, pow2_int]
    show (((2 ^ k : Nat) : Int) % 4294967296).toNat = 2 ^ k
    generalize 2 ^ k = z at hp ⊢
    omega
  rw [BitVec.toNat_and, e1, e2, nat_bit]
  have e3 : X / 2 ^ k % 2 = (x / 2 ^ k % 2).toNat := by
    have hx : x = (X : Int) + 2 ^ k * (2 ^ (32 - k) * (x / 4294967296)) := by
      rw [← Int.mul_assoc, ← Int.pow_add, show k + (32 - k) = 32 from by omega]
      show x = (X : Int) + 4294967296 * (x / 4294967296)
      omega
    have hd : x / 2 ^ k = (X : Int) / 2 ^ k + 2 ^ (32 - k) * (x / 4294967296) := by
      conv => lhs; rw [hx]
      rw [Int.add_mul_ediv_left _ _ (Int.ne_of_gt (pow2_pos k))]
    have hev : (2 : Int) ^ (32 - k) = 2 * 2 ^ (31 - k) := by
      rw [show 32 - k = (31 - k) + 1 from by omega, Int.pow_succ, Int.mul_comm]
    rw [hd, hev, Int.mul_assoc, Int.add_mul_emod_self_left, pow2_int]
    omega
  rw [e3]
  have hb : x / 2 ^ k % 2 = 0 ∨ x / 2 ^ k % 2 = 1 := by omega
  rcases hb with b | b <;> rw [b]
  · simp; decide
  · rw [pow2_int]
    simp only [Int.toNat_one, Nat.one_mul, Int.one_mul]
    generalize 2 ^ k = z at hp ⊢
    simp [IntKind.wrap, IntKind.bits, IntKind.signed]
    omega

/-- two places with one number are one place -/
theorem hp_inj (k : Nat) : ∀ x y a b, x < 2 ^ k → y < 2 ^ k → a < 2 ^ k → b < 2 ^ k → hp k x y = hp k a b → x = a ∧ y = b := by
  induction k with
  | zero => intro x y a b hx hy ha hb _; simp at hx hy ha hb; omega
  | succ k ih =>
    intro x y a b hx hy ha hb h
    rw [Nat.pow_succ] at hx hy ha hb
    have l := hp_lt k
    simp only [hp] at h
    have i1 := ih y x b a
    have i2 := ih x (y - 2 ^ k) a (b - 2 ^ k)
    have i3 := ih (x - 2 ^ k) (y - 2 ^ k) (a - 2 ^ k) (b - 2 ^ k)
    have i4 := ih (2 ^ k - 1 - y) (2 * 2 ^ k - 1 - x) (2 ^ k - 1 - b) (2 * 2 ^ k - 1 - a)
    have x1 := l y x
    have x2 := l x (y - 2 ^ k)
    have x3 := l (x - 2 ^ k) (y - 2 ^ k)
    have x4 := l (2 ^ k - 1 - y) (2 * 2 ^ k - 1 - x)
    have a1 := l b a
    have a2 := l a (b - 2 ^ k)
    have a3 := l (a - 2 ^ k) (b - 2 ^ k)
    have a4 := l (2 ^ k - 1 - b) (2 * 2 ^ k - 1 - a)
    clear ih l
    generalize hp k y x = n1 at *
    generalize hp k x (y - 2 ^ k) = n2 at *
    generalize hp k (x - 2 ^ k) (y - 2 ^ k) = n3 at *
    generalize hp k (2 ^ k - 1 - y) (2 * 2 ^ k - 1 - x) = n4 at *
    generalize hp k b a = m1 at *
    generalize hp k a (b - 2 ^ k) = m2 at *
    generalize hp k (a - 2 ^ k) (b - 2 ^ k) = m3 at *
    generalize hp k (2 ^ k - 1 - b) (2 * 2 ^ k - 1 - a) = m4 at *
    generalize 2 ^ k = s at *
    generalize 4 ^ k = q at *
    by_cases cx : x < s <;> by_cases cy : y < s <;> by_cases ca : a < s <;> by_cases cb : b < s <;>
      simp only [cx, cy, ca, cb, if_pos, if_neg, not_false_eq_true] at h <;> (try (repeat' split at h)) <;> first
        | (exfalso; omega)
        | (have := i1 (by omega) (by omega) (by omega) (by omega) (by omega); omega)
        | (have := i2 (by omega) (by omega) (by omega) (by omega) (by omega); omega)
        | (have := i3 (by omega) (by omega) (by omega) (by omega) (by omega); omega)
        | (have := i4 (by omega) (by omega) (by omega) (by omega) (by omega); omega)

theorem back0 (k x y : Nat) (hx : x < 2 ^ k) (hy : y < 2 ^ k) : hp (k + 1) y x = hp k x y := by
  simp only [hp]; rw [if_pos hy, if_pos hx]
theorem back1 (k x y : Nat) (hx : x < 2 ^ k) : hp (k + 1) x (y + 2 ^ k) = 4 ^ k + hp k x y := by
  simp only [hp]; rw [if_pos hx, if_neg (by omega)]; congr 2; omega
theorem back2 (k x y : Nat) : hp (k + 1) (x + 2 ^ k) (y + 2 ^ k) = 2 * 4 ^ k + hp k x y := by
  simp only [hp]; rw [if_neg (by omega), if_pos (by omega)]; congr 2 <;> omega
theorem back3 (k x y : Nat) (hx : x < 2 ^ k) (hy : y < 2 ^ k) : hp (k + 1) (2 ^ k - 1 - y + 2 ^ k) (2 ^ k - 1 - x) = 3 * 4 ^ k + hp k x y := by
  simp only [hp]; rw [if_neg (by omega), if_neg (by omega)]; congr 2 <;> omega

/-- the digits of a number to the base 4 -/
theorem digit4 (h k : Nat) : h % 4 ^ (k + 1) = h / 4 ^ k % 4 * 4 ^ k + h % 4 ^ k := by
  rw [Nat.pow_succ, Nat.mod_mul, Nat.mul_comm]; omega

end Go.Proofs.Ytgalbnppeboonaa.Hil
