/- Plain laws on lists of words: a bit is taken out. No program in sight. -/
import Derived.Test.YtbcbkieebelleaaBsMath
namespace Go.Proofs.Ytbcbkieebelleaa
set_option linter.unusedVariables false

namespace Bsm
/-- the word that holds the bit r that is taken out -/
def cutw (W r : Nat) : Nat := (W &&& (2 ^ r - 1)) ||| ((W &&& (18446744073709551615 - (2 ^ r - 1))) / 2 &&& (18446744073709551615 - (2 ^ r - 1)))
/-- what DeleteAt makes of the words behind: k of them are done -/
def delw (ws : List Nat) (q y : Nat) : Nat → List Nat
  | 0 => ws.set q y
  | k + 1 => ((delw ws q y k).set (q + k) ((delw ws q y k).getD (q + k) 0 ||| (ws.getD (q + k + 1) 0 % 2) * 9223372036854775808)).set (q + k + 1) (ws.getD (q + k + 1) 0 / 2)

theorem delw_len (ws : List Nat) (q y k : Nat) : (delw ws q y k).length = ws.length := by
  induction k with
  | zero => simp [delw]
  | succ k ih => simp [delw, ih]

theorem set_getD (ws : List Nat) (i x u : Nat) (hi : i < ws.length) : (ws.set i x).getD u 0 = if u = i then x else ws.getD u 0 := by
  simp only [List.getD_eq_getElem?_getD]
  by_cases h : u = i
  · subst h; rw [List.getElem?_set_self hi, if_pos rfl]; rfl
  · rw [List.getElem?_set_ne (fun e => h e.symm), if_neg h]

theorem delw_getD (ws : List Nat) (q y k : Nat) (hk : q + k < ws.length) (u : Nat) :
    (delw ws q y k).getD u 0 = if u < q then ws.getD u 0 else if u ≤ q + k then (if u = q then y else ws.getD u 0 / 2) ||| (if u < q + k then (ws.getD (u + 1) 0 % 2) * 9223372036854775808 else 0) else ws.getD u 0 := by
  induction k with
  | zero =>
    simp only [delw]
    rw [set_getD _ _ _ _ (by omega)]
    by_cases h : u = q
    · subst h; simp
    · rw [if_neg h]
      by_cases h2 : u < q
      · rw [if_pos h2]
      · rw [if_neg h2, if_neg (by omega)]
  | succ k ih =>
    have ih' := ih (by omega)
    simp only [delw]
    rw [set_getD _ _ _ _ (by rw [List.length_set, delw_len]; omega), set_getD _ _ _ _ (by rw [delw_len]; omega)]
    by_cases h : u = q + k + 1
    · subst h
      rw [if_pos rfl, if_neg (by omega), if_pos (by omega), if_neg (by omega), if_neg (by omega)]
      simp
    · rw [if_neg h]
      by_cases h2 : u = q + k
      · subst h2
        have a1 : ¬ q + k < q := by omega
        have a2 : q + k ≤ q + k := Nat.le_refl _
        have a3 : ¬ q + k < q + k := by omega
        have a4 : q + k ≤ q + (k + 1) := by omega
        have a5 : q + k < q + (k + 1) := by omega
        rw [if_pos rfl, ih', if_neg a1, if_pos a2, if_neg a3, if_neg a1, if_pos a4, if_pos a5, Nat.or_zero]
      · rw [if_neg h2, ih']
        by_cases h3 : u < q
        · rw [if_pos h3, if_pos h3]
        · rw [if_neg h3, if_neg h3]
          by_cases h4 : u ≤ q + k
          · have a1 : u ≤ q + (k + 1) := by omega
            have a2 : u < q + k := by omega
            have a3 : u < q + (k + 1) := by omega
            rw [if_pos h4, if_pos a1, if_pos a2, if_pos a3]
          · have a1 : ¬ u ≤ q + (k + 1) := by omega
            rw [if_neg h4, if_neg a1]

theorem mask_bit (r s : Nat) (hr : r < 64) (hs : s < 64) : (18446744073709551615 - (2 ^ r - 1)).testBit s = decide (r ≤ s) := by
  have h1 : (18446744073709551615 - (2 ^ r - 1)) = 2 ^ 64 - (2 ^ r - 1 + 1) := by
    have : 2 ^ r ≤ 2 ^ 63 := Nat.pow_le_pow_right (by omega) (by omega)
    omega
  rw [h1, Nat.testBit_two_pow_sub_succ (by have : 2 ^ r ≤ 2 ^ 63 := Nat.pow_le_pow_right (by omega) (by omega); omega), Nat.testBit_two_pow_sub_one]
  by_cases h : s < r
  · simp [h, hs]
  · simp [h, hs]; omega

theorem half_bit (X s : Nat) : (X / 2).testBit s = X.testBit (s + 1) := by
  rw [Nat.testBit_succ]

theorem top_bit (x s : Nat) (hs : s < 64) : ((x % 2) * 9223372036854775808).testBit s = (decide (s = 63) && x.testBit 0) := by
  have e : (9223372036854775808 : Nat) = 2 ^ 63 := rfl
  rw [e, Nat.testBit_mul_two_pow]
  by_cases h : s = 63
  · subst h; simp [Nat.testBit_zero]
  · have : ¬ 63 ≤ s := by omega
    simp [h, this]

theorem big_bit (X s : Nat) (hX : X < 18446744073709551616) (hs : 64 ≤ s) : X.testBit s = false :=
  Nat.testBit_lt_two_pow (Nat.lt_of_lt_of_le hX (by rw [show (18446744073709551616 : Nat) = 2 ^ 64 from rfl]; exact Nat.pow_le_pow_right (by omega) hs))

theorem cutw_bit (W r s : Nat) (hW : W < 18446744073709551616) (hr : r < 64) (hs : s < 64) : (cutw W r).testBit s = if s < r then W.testBit s else W.testBit (s + 1) := by
  unfold cutw
  rw [Nat.testBit_or, Nat.testBit_and, Nat.testBit_and, half_bit, Nat.testBit_and, mask_bit r s hr hs, Nat.testBit_two_pow_sub_one]
  by_cases h : s < r
  · rw [if_pos h]; have : ¬ r ≤ s := by omega
    simp [h, this]
  · rw [if_neg h]
    have h1 : r ≤ s := by omega
    by_cases h2 : s + 1 < 64
    · rw [mask_bit r (s + 1) hr h2]
      have h3 : r ≤ s + 1 := by omega
      simp [h, h1, h3]
    · rw [big_bit W (s + 1) hW (by omega)]; simp [h]

theorem cutw_lt (W r : Nat) (hW : W < 18446744073709551616) : cutw W r < 18446744073709551616 := by
  unfold cutw
  rw [show (18446744073709551616 : Nat) = 2 ^ 64 from rfl] at *
  apply Nat.or_lt_two_pow
  · exact Nat.lt_of_le_of_lt Nat.and_le_left hW
  · exact Nat.lt_of_le_of_lt Nat.and_le_left (Nat.lt_of_le_of_lt (Nat.div_le_self _ _) (Nat.lt_of_le_of_lt Nat.and_le_left hW))

/-- the words behind the deletion -/
theorem delw_bit (ws : List Nat) (i k : Nat) (hx : ∀ q, ws.getD q 0 < 18446744073709551616) (hk : i / 64 + k + 1 = ws.length) (j : Nat) :
    bit (delw ws (i / 64) (cutw (ws.getD (i / 64) 0) (i % 64)) k) j = if j < i then bit ws j else bit ws (j + 1) := by
  have hout : ∀ u, ws.length ≤ u → ws.getD u 0 = 0 := fun u hu => by rw [List.getD_eq_getElem?_getD, List.getElem?_eq_none hu]; rfl
  have hs : j % 64 < 64 := by omega
  unfold bit
  rw [delw_getD _ _ _ _ (by omega)]
  by_cases h1 : j / 64 < i / 64
  · rw [if_pos h1, if_pos (by omega)]
  · rw [if_neg h1]
    by_cases h2 : j / 64 ≤ i / 64 + k
    · rw [if_pos h2, Nat.testBit_or]
      have htop : (if j / 64 < i / 64 + k then ws.getD (j / 64 + 1) 0 % 2 * 9223372036854775808 else 0) = ws.getD (j / 64 + 1) 0 % 2 * 9223372036854775808 := by
        by_cases h : j / 64 < i / 64 + k
        · rw [if_pos h]
        · rw [if_neg h, hout (j / 64 + 1) (by omega)]
      rw [htop, top_bit _ _ hs]
      by_cases h3 : j / 64 = i / 64
      · rw [if_pos h3, cutw_bit _ _ _ (hx _) (by omega) hs]
        by_cases h4 : j < i
        · rw [if_pos (by omega), if_pos h4, h3]
          have : ¬ j % 64 = 63 := by omega
          simp [this]
        · rw [if_neg (by omega), if_neg h4]
          by_cases h5 : j % 64 = 63
          · rw [big_bit _ _ (hx _) (by omega), show (j + 1) / 64 = j / 64 + 1 from by omega, show (j + 1) % 64 = 0 from by omega]
            simp [h5]
          · rw [show (j + 1) / 64 = j / 64 from by omega, show (j + 1) % 64 = j % 64 + 1 from by omega, ← h3]
            simp [h5]
      · rw [if_neg h3, if_neg (by omega), half_bit]
        by_cases h5 : j % 64 = 63
        · rw [big_bit _ _ (hx _) (by omega), show (j + 1) / 64 = j / 64 + 1 from by omega, show (j + 1) % 64 = 0 from by omega]
          simp [h5]
        · rw [show (j + 1) / 64 = j / 64 from by omega, show (j + 1) % 64 = j % 64 + 1 from by omega]
          simp [h5]
    · rw [if_neg h2, if_neg (by omega), hout _ (by omega), hout _ (by omega)]
      simp

theorem delw_lt (ws : List Nat) (q y k : Nat) (hx : ∀ q, ws.getD q 0 < 18446744073709551616) (hy : y < 18446744073709551616) (hk : q + k < ws.length) (u : Nat) : (delw ws q y k).getD u 0 < 18446744073709551616 := by
  rw [delw_getD _ _ _ _ hk]
  by_cases h1 : u < q
  · rw [if_pos h1]; exact hx u
  · rw [if_neg h1]
    by_cases h2 : u ≤ q + k
    · rw [if_pos h2, show (18446744073709551616 : Nat) = 2 ^ 64 from rfl]
      apply Nat.or_lt_two_pow
      · by_cases h3 : u = q
        · rw [if_pos h3]; exact hy
        · rw [if_neg h3]; have := hx u; omega
      · by_cases h3 : u < q + k
        · rw [if_pos h3]; have : ws.getD (u + 1) 0 % 2 < 2 := Nat.mod_lt _ (by omega); omega
        · rw [if_neg h3]; omega
    · rw [if_neg h2]; exact hx u

/-- a list of bits without the one at i -/
def del (bs : List Bool) (i : Nat) : List Bool := bs.take i ++ bs.drop (i + 1)
theorem del_len (bs : List Bool) (i : Nat) (hi : i < bs.length) : (del bs i).length = bs.length - 1 := by
  simp [del]; omega
theorem del_get (bs : List Bool) (i j : Nat) (hi : i < bs.length) : (del bs i).getD j false = if j < i then bs.getD j false else bs.getD (j + 1) false := by
  unfold del
  simp only [List.getD_eq_getElem?_getD]
  by_cases h : j < i
  · rw [if_pos h, List.getElem?_append_left (by simp; omega), List.getElem?_take, if_pos h]
  · rw [if_neg h, List.getElem?_append_right (by simp; omega), List.getElem?_drop]
    congr 2
    simp
    omega
theorem take_bit (ws : List Nat) (n j : Nat) (hj : j < 64 * n) : bit (ws.take n) j = bit ws j := by
  unfold bit
  have : j / 64 < n := by omega
  simp [List.getD_eq_getElem?_getD, List.getElem?_take, this]
end Bsm
end Go.Proofs.Ytbcbkieebelleaa
