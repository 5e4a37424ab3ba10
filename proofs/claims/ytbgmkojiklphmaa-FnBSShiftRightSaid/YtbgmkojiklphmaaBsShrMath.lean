/- Plain laws on lists of words: all bits stand some places further back. No program in sight. -/
import Derived.Test.YtbgmkojiklphmaaBsDelMath
import Derived.Test.YtbgmkojiklphmaaBsWhole
import Derived.Lib.BitFns
namespace Go.Proofs.Ytbgmkojiklphmaa
set_option linter.unusedVariables false

namespace Bsm
/-- the word u behind a shift by 64 pg + s, d words are left and one -/
def shrw (ws : List Nat) (s pg d u : Nat) : Nat := if u ≤ d then (ws.getD (u + pg) 0 / 2 ^ s) ||| (ws.getD (u + pg + 1) 0 * 2 ^ (64 - s) % 18446744073709551616) else 0

theorem shrw_bit (ws : List Nat) (s pg d u r : Nat) (hx : ∀ q, ws.getD q 0 < 18446744073709551616) (hs : s < 64) (hr : r < 64) (hu : u ≤ d) :
    (shrw ws s pg d u).testBit r = bit ws (64 * u + r + (64 * pg + s)) := by
  unfold shrw
  rw [if_pos hu, Nat.testBit_or, Nat.testBit_div_two_pow]
  rw [show (18446744073709551616 : Nat) = 2 ^ 64 from rfl, Nat.testBit_mod_two_pow, Nat.testBit_mul_two_pow]
  unfold bit
  by_cases h : r + s < 64
  · rw [show (64 * u + r + (64 * pg + s)) / 64 = u + pg from by omega, show (64 * u + r + (64 * pg + s)) % 64 = r + s from by omega]
    have : ¬ 64 - s ≤ r := by omega
    simp [this]
  · rw [show (64 * u + r + (64 * pg + s)) / 64 = u + pg + 1 from by omega, show (64 * u + r + (64 * pg + s)) % 64 = r - (64 - s) from by omega]
    have h1 : 64 - s ≤ r := by omega
    rw [big_bit _ _ (hx _) (by omega)]
    simp [h1, hr]

theorem shrw_lt (ws : List Nat) (s pg d u : Nat) (hx : ∀ q, ws.getD q 0 < 18446744073709551616) : shrw ws s pg d u < 18446744073709551616 := by
  unfold shrw
  by_cases h : u ≤ d
  · rw [if_pos h]
    exact Nat.or_lt_two_pow (n := 64) (Nat.lt_of_le_of_lt (Nat.div_le_self _ _) (hx _)) (Nat.mod_lt _ (by decide))
  · rw [if_neg h]; decide

theorem shr_bits (ws : List Nat) (s pg d : Nat) (hx : ∀ q, ws.getD q 0 < 18446744073709551616) (hs : s < 64) (hd : d < ws.length) (hz : ∀ q, d + pg < q → ws.getD q 0 = 0) (j : Nat) :
    bit (layf (shrw ws s pg d) ws ws.length) j = bit ws (j + (64 * pg + s)) := by
  have hj : 64 * (j / 64) + j % 64 = j := by omega
  by_cases h : j / 64 ≤ d
  · have e := shrw_bit ws s pg d (j / 64) (j % 64) hx hs (by omega) h
    rw [hj] at e
    rw [← e]
    unfold bit
    rw [layf_getD _ _ _ _ (Nat.le_refl _), if_pos (by omega)]
  · have e : bit ws (j + (64 * pg + s)) = false := by
      unfold bit; rw [hz _ (by omega)]; simp
    rw [e]
    unfold bit
    rw [layf_getD _ _ _ _ (Nat.le_refl _)]
    by_cases h2 : j / 64 < ws.length
    · rw [if_pos h2]; unfold shrw; rw [if_neg h]; simp
    · rw [if_neg h2, List.getD_eq_getElem?_getD, List.getElem?_eq_none (by omega)]; simp

theorem layf_congr (f g : Nat → Nat) (ws : List Nat) (i : Nat) (h : ∀ q, q < i → f q = g q) : layf f ws i = layf g ws i := by
  induction i with
  | zero => rfl
  | succ i ih => simp only [layf]; rw [ih fun q hq => h q (by omega), h i (by omega)]

theorem set_same (ws : List Nat) (i x : Nat) (hi : i < ws.length) (h : ws.getD i 0 = x) : ws.set i x = ws := by
  apply List.ext_getElem?
  intro q
  by_cases e : i = q
  · subst e
    rw [List.getElem?_set_self hi, List.getElem?_eq_getElem hi]
    rw [List.getD_eq_getElem?_getD, List.getElem?_eq_getElem hi] at h
    simp at h; rw [h]
  · rw [List.getElem?_set_ne e]

/-- the length of a word whose highest bit is r -/
theorem bitLen_top (X r : Nat) (hX : X < 18446744073709551616) (hr : r < 64) (h1 : X.testBit r = true) (h2 : ∀ j, r < j → X.testBit j = false) : Lib.bitLen X = r + 1 := by
  have h3 : 2 ^ r ≤ X := Nat.ge_two_pow_of_testBit h1
  have h4 : X < 2 ^ (r + 1) := Nat.lt_pow_two_of_testBit X fun j hj => h2 j (by omega)
  have h5 : X / 2 ^ r = 1 := by
    apply Nat.div_eq_of_lt_le
    · omega
    · rw [Nat.pow_succ] at h4; omega
  rw [Lib.bitLen_shift r X h3 hX, h5]
  rfl
theorem zero_of_bits (X : Nat) (h : ∀ j, X.testBit j = false) : X = 0 := by
  apply Nat.eq_of_testBit_eq
  intro i
  rw [h i]; simp
theorem word_of_bits (ws : List Nat) (q : Nat) (hx : ws.getD q 0 < 18446744073709551616) (h : ∀ j, j / 64 = q → bit ws j = false) : ws.getD q 0 = 0 := by
  apply zero_of_bits
  intro r
  by_cases hr : r < 64
  · have := h (64 * q + r) (by omega)
    unfold bit at this
    rwa [show (64 * q + r) / 64 = q from by omega, show (64 * q + r) % 64 = r from by omega] at this
  · exact big_bit _ _ hx (by omega)
/-- the words hold no bit, or there is a highest one -/
theorem top_split (f : Nat → Bool) (n : Nat) (h : ∀ j, n ≤ j → f j = false) : (∀ j, f j = false) ∨ ∃ t, f t = true ∧ ∀ j, t < j → f j = false := by
  induction n with
  | zero => exact .inl fun j => h j (Nat.zero_le _)
  | succ n ih =>
    by_cases hn : f n = true
    · exact .inr ⟨n, hn, fun j hj => h j (by omega)⟩
    · exact ih fun j hj => by
        by_cases e : j = n
        · subst e; simpa using hn
        · exact h j (by omega)
end Bsm
end Go.Proofs.Ytbgmkojiklphmaa
