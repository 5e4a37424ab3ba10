/- Counting bits: spec.BSCount; the plain laws of counts. -/
import Derived.Test.YtbcbkieebelleaaBsPop
namespace Go.Proofs.Ytbcbkieebelleaa
set_option linter.unusedVariables false
open Go.RowKit

/-- how many of n places from a on hold -/
def Bsm.cnt (f : Nat → Bool) (a : Nat) : Nat → Nat
  | 0 => 0
  | n + 1 => Bsm.cnt f a n + (if f (a + n) then 1 else 0)
theorem Bsm.cnt_yes (f : Nat → Bool) (a n : Nat) (h : f (a + n) = true) : Bsm.cnt f a (n + 1) = Bsm.cnt f a n + 1 := by
  simp only [Bsm.cnt]; rw [if_pos h]
theorem Bsm.cnt_no (f : Nat → Bool) (a n : Nat) (h : f (a + n) = false) : Bsm.cnt f a (n + 1) = Bsm.cnt f a n := by
  simp only [Bsm.cnt]; rw [if_neg (by rw [h]; decide)]; rfl
theorem Bsm.cnt_le (f : Nat → Bool) (a n : Nat) : Bsm.cnt f a n ≤ n := by
  induction n with
  | zero => simp [Bsm.cnt]
  | succ n ih => simp only [Bsm.cnt]; split <;> omega
theorem Bsm.cnt_add (f : Nat → Bool) (a m n : Nat) : Bsm.cnt f a (m + n) = Bsm.cnt f a m + Bsm.cnt f (a + m) n := by
  induction n with
  | zero => simp [Bsm.cnt]
  | succ n ih => rw [← Nat.add_assoc]; simp only [Bsm.cnt]; rw [ih, Nat.add_assoc a m n]; omega
theorem Bsm.cnt_congr (f g : Nat → Bool) (a b n : Nat) (h : ∀ j, j < n → f (a + j) = g (b + j)) : Bsm.cnt f a n = Bsm.cnt g b n := by
  induction n with
  | zero => rfl
  | succ n ih => simp only [Bsm.cnt]; rw [ih (fun j hj => h j (by omega)), h n (by omega)]
theorem Bsm.cnt_none (f : Nat → Bool) (a n : Nat) (h : ∀ j, j < n → f (a + j) = false) : Bsm.cnt f a n = 0 := by
  induction n with
  | zero => rfl
  | succ n ih => simp only [Bsm.cnt]; rw [ih (fun j hj => h j (by omega)), h n (by omega)]; rfl
/-- places that are not set do not count -/
theorem Bsm.cnt_more (f : Nat → Bool) (a m n : Nat) (hmn : m ≤ n) (h : ∀ j, m ≤ j → j < n → f (a + j) = false) : Bsm.cnt f a n = Bsm.cnt f a m := by
  have e : n = m + (n - m) := by omega
  rw [e, Bsm.cnt_add, Bsm.cnt_none f (a + m) (n - m) (fun j hj => by rw [Nat.add_assoc]; exact h (m + j) (by omega) (by omega))]
  rfl
theorem Bsm.cnt_succ' (f : Nat → Bool) (a n : Nat) : Bsm.cnt f a (n + 1) = (if f a then 1 else 0) + Bsm.cnt f (a + 1) n := by
  rw [Nat.add_comm n 1, Bsm.cnt_add]; simp [Bsm.cnt]
theorem Bsm.pc_cnt (k x : Nat) : Pop.pc k x = Bsm.cnt (fun j => x.testBit j) 0 k := by
  induction k generalizing x with
  | zero => rfl
  | succ k ih =>
    rw [Bsm.cnt_succ']
    simp only [Pop.pc]
    rw [ih]
    congr 1
    · rw [Nat.testBit_zero]
      by_cases h : x % 2 = 1
      · simp [h]
      · have : x % 2 = 0 := by omega
        simp [this]
    · exact Bsm.cnt_congr _ _ _ _ _ (fun j _ => by rw [Nat.zero_add, Nat.zero_add, Nat.add_comm 1 j, Nat.testBit_succ])
/-- a word's bits -/
theorem Bsm.pc_word (ws : List Nat) (q : Nat) : Pop.pc 64 (ws.getD q 0) = Bsm.cnt (Bsm.bit ws) (64 * q) 64 := by
  rw [Bsm.pc_cnt]
  refine Bsm.cnt_congr _ _ _ _ _ (fun j hj => ?_)
  unfold Bsm.bit
  rw [Nat.zero_add, show (64 * q + j) / 64 = q from by omega, show (64 * q + j) % 64 = j from by omega]
/-- the lowest k + 1 bits of a word, shifted up -/
theorem Bsm.pc_low (x k : Nat) (hk : k < 64) : Pop.pc 64 (x * 2 ^ (63 - k) % 18446744073709551616) = Bsm.cnt (fun j => x.testBit j) 0 (k + 1) := by
  rw [Bsm.pc_cnt, show (64 : Nat) = (63 - k) + (k + 1) from by omega, Bsm.cnt_add, Bsm.cnt_none _ 0 (63 - k), Nat.zero_add]
  · refine Bsm.cnt_congr _ _ _ _ _ (fun j hj => ?_)
    rw [show (18446744073709551616 : Nat) = 2 ^ 64 from rfl, Nat.testBit_mod_two_pow, ← Nat.shiftLeft_eq, Nat.testBit_shiftLeft]
    have h1 : 0 + (63 - k) + j < 64 := by omega
    have h2 : 0 + (63 - k) + j ≥ 63 - k := by omega
    have h3 : 0 + (63 - k) + j - (63 - k) = 0 + j := by omega
    simp only [h1, h2, h3, decide_true, Bool.true_and]
  · intro j hj
    rw [show (18446744073709551616 : Nat) = 2 ^ 64 from rfl, Nat.testBit_mod_two_pow, ← Nat.shiftLeft_eq, Nat.testBit_shiftLeft]
    have h2 : ¬ (0 + j ≥ 63 - k) := by omega
    simp only [h2, decide_false, Bool.false_and, Bool.and_false]

def CountLoop (bs : List Bool) (f N : Nat) (w : World) (k : Nat) (n i : Value) (wr : World) : Prop :=
  ∃ c j x : Nat, i = .int .i64 (j : Int) ∧ f + c = j ∧ c + k = N ∧ n = .int .u64 (x : Int) ∧ Bsm.cnt (fun j => bs.getD j false) f c = x ∧ wr = w

theorem Bsm.cnt_zero (f : Nat → Bool) (a : Nat) : Bsm.cnt f a 0 = 0 := rfl

attribute [local irreducible] Pop.pc Bsm.cnt

theorem shl_fact (X i : Nat) (hi : i ≤ 10000) : IntKind.u64.wrap ((X : Int) * 2 ^ min (IntKind.u64.wrap (63 - bits BinOp.and IntKind.u64 (i : Int) 63)).toNat 64) = ((X * 2 ^ (63 - i % 64) % 18446744073709551616 : Nat) : Int) := by
  have h := u64_and_nat i 63 (by omega) (by omega)
  rw [and63] at h
  have h2 : bits BinOp.and IntKind.u64 (i : Int) 63 = ((i % 64 : Nat) : Int) := h
  have e1 : (IntKind.u64.wrap (63 - ((i % 64 : Nat) : Int))).toNat = 63 - i % 64 := by rw [IntKind.wrap_u64]; omega
  rw [h2, e1, Nat.min_eq_left (by omega), IntKind.wrap_u64]
  have e2 : (X : Int) * 2 ^ (63 - i % 64) = ((X * 2 ^ (63 - i % 64) : Nat) : Int) := by simp
  rw [e2]
  rfl

def RankLoop (ws : List Nat) (N : Nat) (w : World) (k : Nat) (r j : Value) (wr : World) : Prop :=
  ∃ c x : Nat, j = .int .i64 (c : Int) ∧ c + k = N ∧ r = .int .u64 (x : Int) ∧ Bsm.cnt (Bsm.bit ws) 0 (64 * c) = x ∧ ∃ m, wr = w.drewN m

end Go.Proofs.Ytbcbkieebelleaa
