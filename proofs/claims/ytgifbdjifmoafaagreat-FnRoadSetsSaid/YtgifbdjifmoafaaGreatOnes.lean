/- math/bits.OnesCount64 counts the bits. -/
import Derived.Test.YtgifbdjifmoafaaGreatRows
import Derived.Test.YtgifbdjifmoafaaGreatMem
import Derived.WalkSpells
import Derived.WalkLawsBesides
import Derived.Test.YtgifbdjifmoafaaGreatPop
import Derived.Test.YtgifbdjifmoafaaGreatBits
namespace Go.Proofs.YtgifbdjifmoafaaGreat
set_option linter.unusedVariables false
open Go.RowKit

theorem Pop.step1b (n x : Nat) : (x / 2 &&& Pop.rep 4 1 n) + (x &&& Pop.rep 4 1 n) = Pop.c2 n x := by
  induction n generalizing x with
  | zero => simp [Pop.rep, Pop.c2]
  | succ n ih =>
    have e : x / 2 = x / 2 % 4 + 2 ^ 2 * (x / 4 / 2) := by omega
    have a := Pop.and_lane 2 (x / 2 % 4) (x / 4 / 2) 1 (Pop.rep 4 1 n) (by omega) (by omega)
    rw [← e] at a
    have e3 : x = x % 4 + 2 ^ 2 * (x / 4) := by omega
    have b := Pop.and_lane 2 (x % 4) (x / 4) 1 (Pop.rep 4 1 n) (by omega) (by omega)
    rw [← e3] at b
    have i := ih (x / 4)
    rw [Pop.and_mod2] at a b
    simp only [Pop.rep, Pop.c2]
    have e2 : (1 + 4 * Pop.rep 4 1 n) = 1 + 2 ^ 2 * Pop.rep 4 1 n := rfl
    rw [e2, a, b]
    omega

/-- the bytes of the counts are added -/
theorem Pop.addup (b0 b1 b2 b3 b4 b5 b6 b7 y y1 y2 y3 : Nat) (l0 : b0 ≤ 8) (l1 : b1 ≤ 8) (l2 : b2 ≤ 8) (l3 : b3 ≤ 8) (l4 : b4 ≤ 8) (l5 : b5 ≤ 8) (l6 : b6 ≤ 8) (l7 : b7 ≤ 8)
    (hy : y = b0 + 256 * b1 + 65536 * b2 + 16777216 * b3 + 4294967296 * b4 + 1099511627776 * b5 + 281474976710656 * b6 + 72057594037927936 * b7)
    (h1 : y1 = y + y / 256) (h2 : y2 = y1 + y1 / 65536) (h3 : y3 = y2 + y2 / 4294967296) :
    y3 % 128 = b0 + b1 + b2 + b3 + b4 + b5 + b6 + b7 ∧ y1 < 18446744073709551616 ∧ y2 < 18446744073709551616 ∧ y3 < 9223372036854775808 := by
  have e1 : y / 256 = b1 + 256 * b2 + 65536 * b3 + 16777216 * b4 + 4294967296 * b5 + 1099511627776 * b6 + 281474976710656 * b7 := by omega
  have e2 : y1 = (b0 + b1) + 256 * (b1 + b2) + 65536 * (b2 + b3) + 16777216 * (b3 + b4) + 4294967296 * (b4 + b5) + 1099511627776 * (b5 + b6) + 281474976710656 * (b6 + b7) + 72057594037927936 * b7 := by omega
  clear h1 e1 hy
  have e3 : y1 / 65536 = (b2 + b3) + 256 * (b3 + b4) + 65536 * (b4 + b5) + 16777216 * (b5 + b6) + 4294967296 * (b6 + b7) + 1099511627776 * b7 := by omega
  have e4 : y2 = (b0 + b1 + b2 + b3) + 256 * (b1 + b2 + b3 + b4) + 65536 * (b2 + b3 + b4 + b5) + 16777216 * (b3 + b4 + b5 + b6) + 4294967296 * (b4 + b5 + b6 + b7) + 1099511627776 * (b5 + b6 + b7) + 281474976710656 * (b6 + b7) + 72057594037927936 * b7 := by omega
  have hy1 : y1 < 18446744073709551616 := by omega
  clear h2 e3 e2
  have e5 : y2 / 4294967296 = (b4 + b5 + b6 + b7) + 256 * (b5 + b6 + b7) + 65536 * (b6 + b7) + 16777216 * b7 := by omega
  have e6 : y3 = (b0 + b1 + b2 + b3 + b4 + b5 + b6 + b7) + 128 * (2 * (b1 + b2 + b3 + b4 + b5 + b6 + b7) + 512 * (b2 + b3 + b4 + b5 + b6 + b7) + 131072 * (b3 + b4 + b5 + b6 + b7) + 33554432 * (b4 + b5 + b6 + b7) + 8589934592 * (b5 + b6 + b7) + 2199023255552 * (b6 + b7) + 562949953421312 * b7) := by omega
  have hy2 : y2 < 18446744073709551616 := by omega
  refine ⟨?_, hy1, hy2, by omega⟩
  clear h3 e5 e4 hy1 hy2
  omega

theorem Pop.pc_bytes (x : Nat) : Pop.pc 64 x = Pop.pc 8 x + Pop.pc 8 (x / 256) + Pop.pc 8 (x / 65536) + Pop.pc 8 (x / 16777216) + Pop.pc 8 (x / 4294967296) + Pop.pc 8 (x / 1099511627776) + Pop.pc 8 (x / 281474976710656) + Pop.pc 8 (x / 72057594037927936) := by
  rw [show (64 : Nat) = 8 + 56 from rfl, Pop.pc_add, show (56 : Nat) = 8 + 48 from rfl, Pop.pc_add, show (48 : Nat) = 8 + 40 from rfl, Pop.pc_add, show (40 : Nat) = 8 + 32 from rfl, Pop.pc_add, show (32 : Nat) = 8 + 24 from rfl, Pop.pc_add, show (24 : Nat) = 8 + 16 from rfl, Pop.pc_add, show (16 : Nat) = 8 + 8 from rfl, Pop.pc_add]
  simp only [Nat.div_div_eq_div_mul, Nat.reducePow, Nat.reduceMul]
  omega

theorem Pop.swar3 (x y1 y2 y3 : Nat) (h1 : y1 = Pop.c8 8 x + Pop.c8 8 x / 256) (h2 : y2 = y1 + y1 / 65536) (h3 : y3 = y2 + y2 / 4294967296) :
    y3 % 128 = Pop.pc 64 x ∧ y1 < 18446744073709551616 ∧ y2 < 18446744073709551616 ∧ y3 < 9223372036854775808 := by
  rw [Pop.pc_bytes]
  refine Pop.addup _ _ _ _ _ _ _ _ (Pop.c8 8 x) y1 y2 y3 (Pop.pc_le 8 _) (Pop.pc_le 8 _) (Pop.pc_le 8 _) (Pop.pc_le 8 _) (Pop.pc_le 8 _) (Pop.pc_le 8 _) (Pop.pc_le 8 _) (Pop.pc_le 8 _) ?_ h1 h2 h3
  simp only [Pop.c8, Nat.div_div_eq_div_mul, Nat.reduceMul]
  omega

theorem u64w (n : Nat) (h : n < 18446744073709551616) : IntKind.u64.wrap (n : Int) = (n : Int) := by
  rw [IntKind.wrap_u64]; omega

theorem Pop.e1 (x : Nat) (h : x < 18446744073709551616) :
    IntKind.u64.wrap (bits BinOp.and IntKind.u64 ((x : Int) / 2) 6148914691236517205 + bits BinOp.and IntKind.u64 (x : Int) 6148914691236517205) = ((Pop.c2 32 x : Nat) : Int) := by
  have b0 : bits BinOp.and IntKind.u64 ((x : Int) / 2) 6148914691236517205 = ((x / 2 &&& 6148914691236517205 : Nat) : Int) := by
    have := u64_and_nat (x / 2) 6148914691236517205 (by omega) (by omega)
    rw [← this]; congr 1
  have b1 : bits BinOp.and IntKind.u64 (x : Int) 6148914691236517205 = ((x &&& 6148914691236517205 : Nat) : Int) := u64_and_nat x 6148914691236517205 h (by omega)
  have r1 : Pop.rep 4 1 32 = 6148914691236517205 := by decide
  have s1 := Pop.step1b 32 x
  rw [r1] at s1
  have hl := Pop.c2_lt 32 x
  rw [b0, b1, ← Int.natCast_add, s1, u64w _ (by simpa using hl)]

theorem Pop.e2 (x : Nat) :
    IntKind.u64.wrap (bits BinOp.and IntKind.u64 (((Pop.c2 32 x : Nat) : Int) / 4) 3689348814741910323 + bits BinOp.and IntKind.u64 ((Pop.c2 32 x : Nat) : Int) 3689348814741910323) = ((Pop.c4 16 x : Nat) : Int) ∧ Pop.c4 16 x ≤ 7378697629483820646 := by
  have hl := Pop.c2_lt 32 x
  have r2 : Pop.rep 16 3 16 = 3689348814741910323 := by decide
  have s2 := Pop.step2 16 x
  rw [r2] at s2
  have hl2 : Pop.c2 32 x < 18446744073709551616 := by simpa using hl
  generalize hy : Pop.c2 32 x = y at *
  have b1 : bits BinOp.and IntKind.u64 ((y : Int) / 4) 3689348814741910323 = ((y / 4 &&& 3689348814741910323 : Nat) : Int) := by
    have := u64_and_nat (y / 4) 3689348814741910323 (by omega) (by omega)
    rw [← this]; congr 1
  have b2 : bits BinOp.and IntKind.u64 (y : Int) 3689348814741910323 = ((y &&& 3689348814741910323 : Nat) : Int) := u64_and_nat y 3689348814741910323 hl2 (by omega)
  have l1 : y / 4 &&& 3689348814741910323 ≤ 3689348814741910323 := Nat.and_le_right
  have l2 : y &&& 3689348814741910323 ≤ 3689348814741910323 := Nat.and_le_right
  have l3 : Pop.c4 16 x ≤ 7378697629483820646 := by omega
  exact ⟨by rw [b1, b2, ← Int.natCast_add, s2, u64w _ (by omega)], l3⟩

theorem Pop.e3 (x : Nat) (hl : Pop.c4 16 x ≤ 7378697629483820646) :
    bits BinOp.and IntKind.u64 (IntKind.u64.wrap (((Pop.c4 16 x : Nat) : Int) / 16 + ((Pop.c4 16 x : Nat) : Int))) 1085102592571150095 = ((Pop.c8 8 x : Nat) : Int) := by
  have r3 : Pop.rep 256 15 8 = 1085102592571150095 := by decide
  have s3 := Pop.step3 8 x
  rw [r3] at s3
  generalize hy : Pop.c4 16 x = y at *
  rw [show (y : Int) / 16 + (y : Int) = ((y + y / 16 : Nat) : Int) from by omega, u64w _ (by omega)]
  have b3 : bits BinOp.and IntKind.u64 ((y + y / 16 : Nat) : Int) 1085102592571150095 = ((y + y / 16 &&& 1085102592571150095 : Nat) : Int) := u64_and_nat (y + y / 16) 1085102592571150095 (by omega) (by omega)
  rw [b3, s3]

theorem Pop.e7 (y : Nat) (h : y < 9223372036854775808) : bits BinOp.and IntKind.i64 (wrap64 (y : Int)) 127 = ((y % 128 : Nat) : Int) := by
  have e : wrap64 (y : Int) = (y : Int) := by unfold wrap64; omega
  rw [e]
  have := i64_and_nat y 127 h (by omega)
  have e2 : y &&& 127 = y % 128 := Nat.and_two_pow_sub_one_eq_mod y 7
  rw [e2] at this
  exact this

set_option maxRecDepth 100000 in
set_option maxHeartbeats 1000000 in
theorem ones_any (x : Nat) (w : World) (h1 : x < 18446744073709551616) :
    Calls Tryz.prog 65 #[.int .u64 (x : Int)] w fun e w' => e = .returned (.int .i64 (Pop.pc 64 x : Nat)) ∧ w = w' := by
  have H1 := Lib.hid h1
  clear h1
  go_enter Tryz.func65, Tryz.ntmps65
  go_wp2_with fail
  go_ret
  refine ⟨ret_int ?_, rfl⟩
  have h := H1.out
  have h2 := Pop.e2 x
  obtain ⟨y1, hy1⟩ : ∃ y1, y1 = Pop.c8 8 x + Pop.c8 8 x / 256 := ⟨_, rfl⟩
  obtain ⟨y2, hy2⟩ : ∃ y2, y2 = y1 + y1 / 65536 := ⟨_, rfl⟩
  obtain ⟨y3, hy3⟩ : ∃ y3, y3 = y2 + y2 / 4294967296 := ⟨_, rfl⟩
  have h4 := Pop.swar3 x y1 y2 y3 hy1 hy2 hy3
  rw [Pop.e1 x h, h2.1, Pop.e3 x h2.2, show ((Pop.c8 8 x : Nat) : Int) + ((Pop.c8 8 x : Nat) : Int) / 256 = (y1 : Int) from by omega, u64w y1 h4.2.1,
    show (y1 : Int) + (y1 : Int) / 65536 = (y2 : Int) from by omega, u64w y2 h4.2.2.1, show (y2 : Int) + (y2 : Int) / 4294967296 = (y3 : Int) from by omega, u64w y3 (by omega), Pop.e7 y3 h4.2.2.2, h4.1]
end Go.Proofs.YtgifbdjifmoafaaGreat
