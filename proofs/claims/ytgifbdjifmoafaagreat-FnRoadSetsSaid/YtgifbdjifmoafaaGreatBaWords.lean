/- Walks of the operations of a block, of getIndexAndRemainder; what the words' operations compute. -/
import Derived.Test.YtgifbdjifmoafaaGreatRows
import Derived.Test.YtgifbdjifmoafaaGreatMem
import Derived.Test.YtgifbdjifmoafaaGreatBaMath4
import Derived.Laws.BitsAllLaws
import Derived.WalkSpells
import Derived.WalkLawsBesides
import Derived.Deep.LoopGhost
namespace Go.Proofs.YtgifbdjifmoafaaGreat
set_option linter.unusedVariables false
open Go.RowKit Bam

theorem pow_wrap (k : Nat) (hk : k < 64) : IntKind.u64.wrap ((2 : Int) ^ k) = ((2 ^ k : Nat) : Int) := by
  have hp : 2 ^ k < 2 ^ 64 := Nat.pow_lt_pow_right (by omega) hk
  rw [IntKind.wrap_u64]
  have e : (2 : Int) ^ k = ((2 ^ k : Nat) : Int) := by simp
  rw [e]
  generalize 2 ^ k = z at hp
  omega
theorem p64 {k : Nat} (hk : k < 64) : 2 ^ k < 18446744073709551616 := by
  have : 2 ^ k < 2 ^ 64 := Nat.pow_lt_pow_right (by omega) hk
  exact this
theorem or_word (X k : Nat) (hX : X < 18446744073709551616) (hk : k < 64) : bits BinOp.or IntKind.u64 (X : Int) (IntKind.u64.wrap (2 ^ k)) = ((X ||| 2 ^ k : Nat) : Int) := by
  rw [pow_wrap _ hk, u64_or_nat X _ hX (p64 hk)]
theorem and_bit (X k : Nat) : X &&& 2 ^ k = if X.testBit k then 2 ^ k else 0 := by
  apply Nat.eq_of_testBit_eq
  intro i
  rw [Nat.testBit_and, Nat.testBit_two_pow]
  by_cases e : k = i
  · subst e; cases X.testBit k <;> simp
  · split <;> simp [e, Nat.testBit_two_pow]
theorem and_word (X k : Nat) (hX : X < 18446744073709551616) (hk : k < 64) : bits BinOp.and IntKind.u64 (X : Int) (IntKind.u64.wrap (2 ^ k)) = ((if X.testBit k then 2 ^ k else 0 : Nat) : Int) := by
  rw [pow_wrap _ hk, u64_and_nat X _ hX (p64 hk), and_bit]
theorem test_word (X k : Nat) (hX : X < 18446744073709551616) (hk : k < 64) : (bits BinOp.and IntKind.u64 (X : Int) (IntKind.u64.wrap (2 ^ k)) != 0) = X.testBit k := by
  rw [and_word X k hX hk]
  have hpos := Nat.two_pow_pos k
  cases X.testBit k
  · simp
  · simp only [if_true, bne_iff_ne]
    generalize 2 ^ k = z at hpos
    omega
theorem and_compl {a b : Nat} (ha : a < 2 ^ 64) (hb : b < 2 ^ 64) : a &&& (18446744073709551615 - b) = a ^^^ (a &&& b) := by
  apply Nat.eq_of_testBit_eq
  intro i
  have e : (18446744073709551615 - b : Nat) = 2 ^ 64 - (b + 1) := by omega
  rw [xorand, Nat.testBit_and, e, Nat.testBit_two_pow_sub_succ hb]
  by_cases h : i < 64
  · simp [h]
  · rw [Nat.testBit_lt_two_pow (Nat.lt_of_lt_of_le ha (Nat.pow_le_pow_right (by decide) (by omega)))]; simp
theorem not_word (X : Nat) (hX : X < 18446744073709551616) : bits BinOp.xor IntKind.u64 IntKind.u64.max (X : Int) = ((18446744073709551615 - X : Nat) : Int) := by
  have e : IntKind.u64.max = ((18446744073709551615 : Nat) : Int) := rfl
  rw [e, u64_xor_nat _ _ (by omega) hX]
  congr 1
  apply Nat.eq_of_testBit_eq
  intro i
  have e : (18446744073709551615 - X : Nat) = 2 ^ 64 - (X + 1) := by omega
  have e2 : (18446744073709551615 : Nat) = 2 ^ 64 - 1 := rfl
  rw [e, Nat.testBit_two_pow_sub_succ (show X < 2 ^ 64 from hX), e2, Nat.testBit_xor, Nat.testBit_two_pow_sub_one]
  by_cases h : i < 64
  · simp [h]
  · rw [Nat.testBit_lt_two_pow (Nat.lt_of_lt_of_le (show X < 2 ^ 64 from hX) (Nat.pow_le_pow_right (by decide) (by omega)))]; simp [h]
theorem andnot_word (a b : Nat) (ha : a < 18446744073709551616) (hb : b < 18446744073709551616) : bits BinOp.andNot IntKind.u64 (a : Int) (b : Int) = ((a ^^^ (a &&& b) : Nat) : Int) := by
  rw [u64_andNot_nat a b ha hb, and_compl ha hb]
theorem remove_word (a k : Nat) (ha : a < 18446744073709551616) (hk : k < 64) : bits BinOp.and IntKind.u64 (a : Int) (bits BinOp.xor IntKind.u64 IntKind.u64.max (IntKind.u64.wrap (2 ^ k))) = ((a ^^^ (a &&& 2 ^ k) : Nat) : Int) := by
  rw [pow_wrap _ hk, not_word _ (p64 hk), u64_and_nat a _ ha (Nat.lt_of_le_of_lt (Nat.sub_le _ _) (by omega)), and_compl ha (p64 hk)]

theorem idxrem_any (k : Nat) (hk : k < 18446744073709551616) (w : World) :
    Calls Tryz.prog 45 #[.int .u64 (k : Int)] w fun e w' => e = .returned (.tuple #[.int .u64 ((k / 64 : Nat) : Int), .int .u64 ((k % 64 : Nat) : Int)]) ∧ w = w' := by
  go_enter Tryz.func45, Tryz.ntmps45
  go_wp2_with fail
  go_ret2
  exact ⟨by simp, rfl⟩

theorem binsert_any (b k : Nat) (hb : b < 18446744073709551616) (hk : k < 64) (w : World) :
    Calls Tryz.prog 95 #[.int .u64 (b : Int), .int .u64 (k : Int)] w fun e w' => e = .returned (.int .u64 ((b ||| 2 ^ k : Nat) : Int)) ∧ w = w' := by
  go_enter Tryz.func95, Tryz.ntmps95
  go_wp2_with fail
  go_ret
  exact ⟨ret_int (or_word b k hb hk), rfl⟩
theorem bremove_any (b k : Nat) (hb : b < 18446744073709551616) (hk : k < 64) (w : World) :
    Calls Tryz.prog 127 #[.int .u64 (b : Int), .int .u64 (k : Int)] w fun e w' => e = .returned (.int .u64 ((b ^^^ (b &&& 2 ^ k) : Nat) : Int)) ∧ w = w' := by
  go_enter Tryz.func127, Tryz.ntmps127
  go_wp2_with fail
  go_ret
  exact ⟨ret_int (remove_word b k hb hk), rfl⟩
theorem bget_any (b k : Nat) (hb : b < 18446744073709551616) (hk : k < 64) (w : World) :
    Calls Tryz.prog 128 #[.int .u64 (b : Int), .int .u64 (k : Int)] w fun e w' => e = .returned (.bool (b.testBit k)) ∧ w = w' := by
  go_enter Tryz.func128, Tryz.ntmps128
  go_wp2_with fail
  go_ret
  exact ⟨ret_bool (test_word b k hb hk), rfl⟩
theorem band_any (b c : Nat) (hb : b < 18446744073709551616) (hc : c < 18446744073709551616) (w : World) :
    Calls Tryz.prog 98 #[.int .u64 (b : Int), .int .u64 (c : Int)] w fun e w' => e = .returned (.int .u64 ((b &&& c : Nat) : Int)) ∧ w = w' := by
  go_enter Tryz.func98, Tryz.ntmps98
  go_wp2_with fail
  go_ret
  exact ⟨ret_int (u64_and_nat b c hb hc), rfl⟩
theorem bor_any (b c : Nat) (hb : b < 18446744073709551616) (hc : c < 18446744073709551616) (w : World) :
    Calls Tryz.prog 108 #[.int .u64 (b : Int), .int .u64 (c : Int)] w fun e w' => e = .returned (.int .u64 ((b ||| c : Nat) : Int)) ∧ w = w' := by
  go_enter Tryz.func108, Tryz.ntmps108
  go_wp2_with fail
  go_ret
  exact ⟨ret_int (u64_or_nat b c hb hc), rfl⟩
theorem bnand_any (b c : Nat) (hb : b < 18446744073709551616) (hc : c < 18446744073709551616) (w : World) :
    Calls Tryz.prog 105 #[.int .u64 (b : Int), .int .u64 (c : Int)] w fun e w' => e = .returned (.int .u64 ((b ^^^ (b &&& c) : Nat) : Int)) ∧ w = w' := by
  go_enter Tryz.func105, Tryz.ntmps105
  go_wp2_with fail
  go_ret
  exact ⟨ret_int (andnot_word b c hb hc), rfl⟩
theorem bequals_any (b c : Nat) (w : World) :
    Calls Tryz.prog 87 #[.int .u64 (b : Int), .int .u64 (c : Int)] w fun e w' => e = .returned (.bool (decide (b = c))) ∧ w = w' := by
  go_enter Tryz.func87, Tryz.ntmps87
  go_wp2_with fail
  go_ret
  exact ⟨ret_bool (by rw [Bool.eq_iff_iff]; simp; omega), rfl⟩
theorem bmeets_any (b c : Nat) (hb : b < 18446744073709551616) (hc : c < 18446744073709551616) (w : World) :
    Calls Tryz.prog 104 #[.int .u64 (b : Int), .int .u64 (c : Int)] w fun e w' => e = .returned (.bool (decide (b &&& c = c))) ∧ w = w' := by
  go_enter Tryz.func104, Tryz.ntmps104
  go_wp2_with fail
  go_ret
  exact ⟨ret_bool (by rw [u64_and_nat b c hb hc, Bool.eq_iff_iff]; simp only [beq_iff_eq, decide_eq_true_eq]; omega), rfl⟩
end Go.Proofs.YtgifbdjifmoafaaGreat
