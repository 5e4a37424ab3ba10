/- Going through the set bits of a bitset, word by word: plain law. -/
import Derived.Test.YtbcbkieebelleaaDoorTz
namespace Go.Proofs.YtbcbkieebelleaaDoor
set_option linter.unusedVariables false

/-- the places from a on, n of them, at which f holds -/
def posr (f : Nat → Bool) (a : Nat) : Nat → List Nat
  | 0 => []
  | n + 1 => posr f a n ++ (if f (a + n) then [a + n] else [])

theorem posr_skip (f : Nat → Bool) (a n : Nat) : ∀ m, (∀ x, a + n ≤ x → x < a + n + m → f x = false) → posr f a (n + m) = posr f a n
  | 0, _ => rfl
  | m + 1, h => by
    rw [← Nat.add_assoc]
    show posr f a (n + m) ++ _ = _
    rw [posr_skip f a n m fun x h1 h2 => h x h1 (by omega), h (a + (n + m)) (by omega) (by omega)]
    simp
theorem posr_pick (f : Nat → Bool) (a n c : Nat) (hc : a + n ≤ c) (h : ∀ x, a + n ≤ x → x < c → f x = false) (hf : f c = true) : posr f a (c + 1 - a) = posr f a n ++ [c] := by
  obtain ⟨m, rfl⟩ : ∃ m, c = a + (n + m) := ⟨c - a - n, by omega⟩
  rw [show a + (n + m) + 1 - a = n + m + 1 by omega]
  show posr f a (n + m) ++ _ = _
  rw [posr_skip f a n m fun x h1 h2 => h x h1 (by omega), hf]
  simp
theorem posr_len (f : Nat → Bool) (a : Nat) : ∀ n, (posr f a n).length ≤ n
  | 0 => Nat.le_refl _
  | n + 1 => by
    have := posr_len f a n
    show (posr f a n ++ _).length ≤ _
    rw [List.length_append]
    split <;> simp <;> omega
theorem posr_add (f : Nat → Bool) (a n : Nat) : ∀ m, posr f a (n + m) = posr f a n ++ posr f (a + n) m
  | 0 => by simp [posr]
  | m + 1 => by
    rw [← Nat.add_assoc]
    show posr f a (n + m) ++ _ = _ ++ (posr f (a + n) m ++ _)
    rw [posr_add f a n m, List.append_assoc, ← Nat.add_assoc]
theorem posr_congr (f g : Nat → Bool) (a : Nat) : ∀ n, (∀ x, a ≤ x → x < a + n → f x = g x) → posr f a n = posr g a n
  | 0, _ => rfl
  | n + 1, h => by
    show posr f a n ++ _ = posr g a n ++ _
    rw [posr_congr f g a n fun x h1 h2 => h x h1 (by omega), h (a + n) (by omega) (by omega)]
theorem posr_posn (bs : List Bool) : ∀ n, posr (fun j => bs.getD j false) 0 n = Bsm.posn bs n
  | 0 => rfl
  | n + 1 => by
    show posr _ 0 n ++ _ = Bsm.posn bs (n + 1)
    rw [posr_posn bs n]
    simp only [Bsm.posn, Nat.zero_add]

theorem and_pred (Y : Nat) (h0 : Y ≠ 0) (hY : Y < 18446744073709551616) (k : Nat) : (Y &&& (Y - 1)).testBit k = (Y.testBit k && decide (k ≠ Lib.ctz 64 Y)) := by
  obtain ⟨m, h1, h2⟩ := Lib.ctzFrom_spec 64 Y (by omega) hY
  have e : Lib.ctz 64 Y = Lib.ctzFrom 64 Y := by simp [Lib.ctz, h0]
  rw [e]
  generalize Lib.ctzFrom 64 Y = c at *
  have hp := Nat.two_pow_pos c
  have e1 : Y - 1 = 2 ^ c * (2 * m) + (2 ^ c - 1) := by
    rw [h1, Nat.mul_add, Nat.mul_one]; omega
  rw [Nat.testBit_and, e1, Nat.testBit_two_pow_mul_add _ (by omega)]
  have e2 : Y.testBit k = (decide (c ≤ k) && (2 * m + 1).testBit (k - c)) := by rw [h1, Nat.testBit_two_pow_mul]
  rw [e2]
  by_cases hk : k < c
  · have : ¬ c ≤ k := by omega
    simp [this]
  · rw [if_neg hk]
    by_cases hkc : k = c
    · subst hkc
      simp
    · obtain ⟨d, rfl⟩ : ∃ d, k = c + (d + 1) := ⟨k - c - 1, by omega⟩
      have e3 : (2 * m + 1).testBit (c + (d + 1) - c) = m.testBit d := by
        rw [show c + (d + 1) - c = d + 1 by omega, Nat.testBit_succ]; congr 1; omega
      have e4 : (2 * m).testBit (c + (d + 1) - c) = m.testBit d := by
        rw [show c + (d + 1) - c = d + 1 by omega, Nat.testBit_succ]; congr 1; omega
      rw [e3, e4]
      simp

/-- cs are the places of the search from i on that were found, the last one just before i + T; the word that is looked at stands at b and has R bits; the ones that are left in it are those of Y -/
structure Scan (f : Nat → Bool) (i T : Nat) (cs : List Nat) (b R Y : Nat) : Prop where
  got : cs = posr f i T
  last : cs = [] ∧ T = 0 ∨ ∃ l, cs = l ++ [i + T - 1] ∧ 0 < T
  none : ∀ x, i + T ≤ x → x < b → f x = false
  bits : ∀ k, Y.testBit k = (decide (k < R) && f (b + k) && decide (i + T ≤ b + k))
  lt : Y < 18446744073709551616
  base : i ≤ b
  room : R ≤ 64
  top : i + T ≤ b + R

theorem Scan.step {f : Nat → Bool} {i T : Nat} {cs : List Nat} {b R Y : Nat} (h : Scan f i T cs b R Y) (h0 : Y ≠ 0) :
    Lib.ctz 64 Y < R ∧ Scan f i (b + Lib.ctz 64 Y + 1 - i) (cs ++ [b + Lib.ctz 64 Y]) b R (Y &&& (Y - 1)) := by
  obtain ⟨h1, h2⟩ := ctz_bits Y h0 h.lt
  have hap := and_pred Y h0 h.lt
  generalize Lib.ctz 64 Y = c at *
  rw [h.bits] at h1
  simp only [Bool.and_eq_true, decide_eq_true_eq] at h1
  obtain ⟨⟨hc, hf⟩, hT⟩ := h1
  have hb := h.base
  refine ⟨hc, ⟨?_, .inr ⟨cs, by rw [show i + (b + c + 1 - i) - 1 = b + c by omega], by omega⟩, fun x hx hxb => by omega, fun k => ?_, ?_, hb, h.room, by omega⟩⟩
  · rw [posr_pick f i T (b + c) hT (fun x hx1 hx2 => ?_) hf, h.got]
    by_cases hxb : x < b
    · exact h.none x hx1 hxb
    · have := h2 (x - b) (by omega)
      rw [h.bits, show b + (x - b) = x by omega] at this
      have hk : x - b < R := by omega
      simp only [hk, hx1, decide_true, Bool.true_and, Bool.and_true] at this
      exact this
  · rw [hap, h.bits]
    by_cases hk : k < c
    · have := h2 k hk
      rw [h.bits] at this
      rw [this]
      have h3 : ¬ i + (b + c + 1 - i) ≤ b + k := by omega
      simp [h3]
    · by_cases hkc : k = c
      · subst hkc
        have h3 : ¬ i + (b + k + 1 - i) ≤ b + k := by omega
        simp [h3]
      · have h3 : i + (b + c + 1 - i) ≤ b + k := by omega
        have h4 : i + T ≤ b + k := by omega
        simp [h3, h4, hkc]
  · exact Nat.lt_of_le_of_lt Nat.and_le_left h.lt

theorem Scan.over {f : Nat → Bool} {i T : Nat} {cs : List Nat} {b R : Nat} (h : Scan f i T cs b R 0) : ∀ x, i + T ≤ x → x < b + R → f x = false := fun x h1 h2 => by
  by_cases hxb : x < b
  · exact h.none x h1 hxb
  · have := h.bits (x - b)
    rw [show b + (x - b) = x by omega, Nat.zero_testBit] at this
    have hk : x - b < R := by omega
    simp only [hk, h1, decide_true, Bool.true_and, Bool.and_true] at this
    exact this.symm

/-- the first word -/
theorem Scan.first (ws : List Nat) (i Y : Nat) (hw : ws.getD (i / 64) 0 < 18446744073709551616) (hy : ws.getD (i / 64) 0 >>> (i % 64) = Y) : Scan (Bsm.bit ws) i 0 [] i (64 - i % 64) Y := by
  refine ⟨rfl, .inl ⟨rfl, rfl⟩, fun x h1 h2 => by omega, fun k => ?_, ?_, Nat.le_refl _, by omega, by omega⟩
  · have h3 : i + 0 ≤ i + k := by omega
    by_cases hk : k < 64 - i % 64
    · rw [← hy, tzs_bits ws i k (by omega)]
      simp [hk]
    · rw [← hy, Nat.testBit_shiftRight, Nat.testBit_lt_two_pow (Nat.lt_of_lt_of_le hw (by
        have e : (18446744073709551616 : Nat) = 2 ^ 64 := by decide
        rw [e]; exact Nat.pow_le_pow_right (by omega) (by omega)))]
      simp [hk]
  · rw [← hy, Nat.shiftRight_eq_div_pow]; exact Nat.lt_of_le_of_lt (Nat.div_le_self _ _) hw

/-- what is found behind a word that is done -/
structure Found (f : Nat → Bool) (i T : Nat) (cs : List Nat) (M : Nat) : Prop where
  got : cs = posr f i T
  last : cs = [] ∧ T = 0 ∨ ∃ l, cs = l ++ [i + T - 1] ∧ 0 < T
  none : ∀ x, i + T ≤ x → x < M → f x = false
  top : i + T ≤ M
theorem Scan.found {f : Nat → Bool} {i T : Nat} {cs : List Nat} {b R : Nat} (h : Scan f i T cs b R 0) : Found f i T cs (b + R) := ⟨h.got, h.last, h.over, h.top⟩
/-- the next word -/
theorem Found.next {ws : List Nat} {i T : Nat} {cs : List Nat} {q : Nat} (h : Found (Bsm.bit ws) i T cs (64 * q)) (hw : ws.getD q 0 < 18446744073709551616) : Scan (Bsm.bit ws) i T cs (64 * q) 64 (ws.getD q 0) := by
  have hT := h.top
  refine ⟨h.got, h.last, h.none, fun k => ?_, hw, by omega, Nat.le_refl _, by omega⟩
  have h3 : i + T ≤ 64 * q + k := by omega
  by_cases hk : k < 64
  · unfold Bsm.bit
    rw [show (64 * q + k) / 64 = q by omega, show (64 * q + k) % 64 = k by omega]
    simp [hk, h3]
  · rw [Nat.testBit_lt_two_pow (Nat.lt_of_lt_of_le hw (by
      have e : (18446744073709551616 : Nat) = 2 ^ 64 := by decide
      rw [e]; exact Nat.pow_le_pow_right (by omega) (by omega)))]
    simp [hk]
end Go.Proofs.YtbcbkieebelleaaDoor
