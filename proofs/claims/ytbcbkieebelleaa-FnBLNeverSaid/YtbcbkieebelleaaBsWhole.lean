/- Walks of BitSet's Complement and Clone. -/
import Derived.Test.YtbcbkieebelleaaBsClean
namespace Go.Proofs.Ytbcbkieebelleaa
set_option linter.unusedVariables false
open Go.RowKit

/-- the words below i are f of their place -/
def Bsm.layf (f : Nat → Nat) (ws : List Nat) : Nat → List Nat
  | 0 => ws
  | i + 1 => (Bsm.layf f ws i).set i (f i)
theorem Bsm.layf_len (f : Nat → Nat) (ws : List Nat) (i : Nat) : (Bsm.layf f ws i).length = ws.length := by
  induction i with
  | zero => rfl
  | succ i ih => simp [Bsm.layf, ih]
theorem Bsm.layf_getD (f : Nat → Nat) (ws : List Nat) (i : Nat) (q : Nat) (hi : i ≤ ws.length) : (Bsm.layf f ws i).getD q 0 = if q < i then f q else ws.getD q 0 := by
  induction i with
  | zero => simp [Bsm.layf]
  | succ i ih =>
    have ih' := ih (by omega)
    simp only [Bsm.layf, List.getD_eq_getElem?_getD] at ih' ⊢
    by_cases e : i = q
    · subst e
      rw [List.getElem?_set_self (by rw [Bsm.layf_len]; omega), if_pos (by omega)]
      rfl
    · rw [List.getElem?_set_ne e, ih']
      by_cases h : q < i
      · rw [if_pos h, if_pos (by omega)]
      · rw [if_neg h, if_neg (by omega)]

theorem Bs.word_lt {B p L : Nat} {ws : List Nat} {cap : Nat} {w : World} (h : Bs B w p L ws cap) (q : Nat) : ws.getD q 0 < 18446744073709551616 := by
  obtain ⟨g, h1, h2, h3, h4, h5⟩ := h
  by_cases hq : q < ws.length
  · exact h5 _ (by simp [hq])
  · rw [List.getD_eq_getElem?_getD, List.getElem?_eq_none (by omega)]; simp

theorem not_word (X : Nat) (hX : X < 18446744073709551616) : bits BinOp.xor IntKind.u64 IntKind.u64.max (X : Int) = ((18446744073709551615 - X : Nat) : Int) := by
  have e : IntKind.u64.max = ((18446744073709551615 : Nat) : Int) := by rfl
  rw [e, u64_xor_nat _ X (by omega) hX]
  congr 1
  apply Nat.eq_of_testBit_eq
  intro j
  have e1 : (18446744073709551615 : Nat) - X = 2 ^ 64 - (X + 1) := by omega
  have e2 : (18446744073709551615 : Nat) = 2 ^ 64 - 1 := by rfl
  rw [Nat.testBit_xor, e1, Nat.testBit_two_pow_sub_succ (by omega), e2, Nat.testBit_two_pow_sub_one]
  by_cases hj : j < 64
  · simp [hj]
  · have h64 : 2 ^ 64 ≤ 2 ^ j := Nat.pow_le_pow_right (by decide) (by omega)
    have : X.testBit j = false := Nat.testBit_lt_two_pow (Nat.lt_of_lt_of_le hX h64)
    simp [hj, this]

theorem notnull_any (p : Addr) (w : World) : Calls Try.prog 80 #[.pointer (some p)] w fun e w' => e = .returned (.tuple #[]) ∧ w = w' := by
  go_enter Try.func80, Try.ntmps80
  go_wp2
  go_end0
  exact ⟨rfl, rfl⟩

def CompLoop (f : Nat → Nat) (B p r L n g' : Nat) (w : World) (k : Nat) (idx : Value) (wr : World) : Prop :=
  ∃ i : Nat, idx = .int .i64 (i : Int) ∧ i + k = n ∧ Bs w.heap.size wr r L (Bsm.layf f (List.replicate n 0) i) n ∧ wr.cell? ⟨r, 1, none⟩ = some (.slice (some ⟨g', 0, none⟩) n n) ∧ Below w.heap.size w wr

end Go.Proofs.Ytbcbkieebelleaa
