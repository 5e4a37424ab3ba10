/- The walks of the bitmap functions: what SetBit, ClearBit, GetBit, PopCount of a Bitmap64 and spec.BACount return. -/
import Derived.Test.YtgalbnppeboonaaRows
import Derived.Test.YtgalbnppeboonaaPop
import Derived.WalkKit
import Derived.WalkSpells
import Derived.WalkLawsBesides
import Derived.Lib.Hide
namespace Go.Proofs.Ytgalbnppeboonaa
open Go.RowKit

theorem ret_int {k : IntKind} {a b : Int} (h : a = b) : Ending.returned (.int k a) = .returned (.int k b) := by rw [h]

set_option maxHeartbeats 400000 in
theorem set_any (a b : Int) (w : World) (_h0 : 0 ≤ a) (_h1 : a < 18446744073709551616) (h2 : 0 ≤ b) (h3 : b < 64) :
    Calls Try.prog 16 #[.int .u64 a, .int .u64 b] w fun e w' => e = .returned (.int .u64 (bits BinOp.or IntKind.u64 a (IntKind.u64.wrap (2 ^ b.toNat)))) ∧ w = w' := by
  go_enter Try.func16, Try.ntmps16
  go_wp2
  go_ret
  exact ⟨rfl, rfl⟩

set_option maxHeartbeats 400000 in
theorem clear_any (a b : Int) (w : World) (_h0 : 0 ≤ a) (_h1 : a < 18446744073709551616) (h2 : 0 ≤ b) (h3 : b < 64) :
    Calls Try.prog 17 #[.int .u64 a, .int .u64 b] w fun e w' => e = .returned (.int .u64 (bits BinOp.and IntKind.u64 a (bits BinOp.xor IntKind.u64 IntKind.u64.max (IntKind.u64.wrap (2 ^ b.toNat))))) ∧ w = w' := by
  go_enter Try.func17, Try.ntmps17
  go_wp2
  go_ret
  exact ⟨rfl, rfl⟩

set_option maxHeartbeats 400000 in
theorem get_any (a b : Int) (w : World) (_h0 : 0 ≤ a) (_h1 : a < 18446744073709551616) (h2 : 0 ≤ b) (h3 : b < 64) :
    Calls Try.prog 18 #[.int .u64 a, .int .u64 b] w fun e w' => e = .returned (.bool (bits BinOp.and IntKind.u64 a (IntKind.u64.wrap (2 ^ b.toNat)) != 0)) ∧ w = w' := by
  go_enter Try.func18, Try.ntmps18
  go_wp2
  go_ret
  exact ⟨rfl, rfl⟩

theorem wrap_nat (n : Nat) (h : n < 18446744073709551616) : IntKind.u64.wrap (n : Int) = (n : Int) := by
  rw [IntKind.wrap_u64]; omega

theorem nat_form (A c m d e : Nat) : ((A : Int) * (c : Int)) % (m : Int) / (d : Int) % (e : Int) = ((A * c % m / d % e : Nat) : Int) := by
  simp only [Int.natCast_emod, Int.natCast_ediv, Int.natCast_mul]

theorem pop_plain (x : Nat) (h : x < 18446744073709551616) :
    IntKind.u64.wrap
        (bits BinOp.and IntKind.u64
            (IntKind.u64.wrap
              (IntKind.u64.wrap
                  (bits BinOp.and IntKind.u64 (IntKind.u64.wrap ((x : Int) - bits BinOp.and IntKind.u64 ((x : Int) / 2) 6148914691236517205) / 4) 3689348814741910323 +
                    bits BinOp.and IntKind.u64 (IntKind.u64.wrap ((x : Int) - bits BinOp.and IntKind.u64 ((x : Int) / 2) 6148914691236517205)) 3689348814741910323) +
                IntKind.u64.wrap
                    (bits BinOp.and IntKind.u64 (IntKind.u64.wrap ((x : Int) - bits BinOp.and IntKind.u64 ((x : Int) / 2) 6148914691236517205) / 4) 3689348814741910323 +
                      bits BinOp.and IntKind.u64 (IntKind.u64.wrap ((x : Int) - bits BinOp.and IntKind.u64 ((x : Int) / 2) 6148914691236517205)) 3689348814741910323) /
                  16))
            1085102592571150095 *
          72340172838076673) / 72057594037927936 % 256 = (Pop.pc 64 x : Nat) := by
  have hs := Pop.swar x h
  have hb0 : x / 2 &&& 6148914691236517205 ≤ x / 2 := Nat.and_le_left
  have b0 : bits BinOp.and IntKind.u64 ((x : Int) / 2) 6148914691236517205 = ((x / 2 &&& 6148914691236517205 : Nat) : Int) := by
    have := u64_and_nat (x / 2) 6148914691236517205 (by omega) (by omega)
    rw [← this]; congr 1
  rw [b0, show (x : Int) - ((x / 2 &&& 6148914691236517205 : Nat) : Int) = ((x - (x / 2 &&& 6148914691236517205) : Nat) : Int) from by omega]
  generalize hy : x - (x / 2 &&& 6148914691236517205) = y at *
  have hyl : y < 18446744073709551616 := by omega
  clear b0 hb0 hy
  rw [wrap_nat y hyl]
  have b1 : bits BinOp.and IntKind.u64 ((y : Int) / 4) 3689348814741910323 = ((y / 4 &&& 3689348814741910323 : Nat) : Int) := by
    have := u64_and_nat (y / 4) 3689348814741910323 (by omega) (by omega)
    rw [← this]; congr 1
  have b2 : bits BinOp.and IntKind.u64 (y : Int) 3689348814741910323 = ((y &&& 3689348814741910323 : Nat) : Int) :=
    u64_and_nat y 3689348814741910323 (by omega) (by omega)
  have l1 : y / 4 &&& 3689348814741910323 ≤ 3689348814741910323 := Nat.and_le_right
  have l2 : y &&& 3689348814741910323 ≤ 3689348814741910323 := Nat.and_le_right
  rw [b1, b2, ← Int.natCast_add]
  generalize hz : (y / 4 &&& 3689348814741910323) + (y &&& 3689348814741910323) = z at *
  have hzl : z ≤ 7378697629483820646 := by omega
  clear b1 b2 l1 l2
  rw [wrap_nat z (by omega), show (z : Int) + (z : Int) / 16 = ((z + z / 16 : Nat) : Int) from by omega, wrap_nat (z + z / 16) (by omega)]
  have b3 : bits BinOp.and IntKind.u64 ((z + z / 16 : Nat) : Int) 1085102592571150095 = ((z + z / 16 &&& 1085102592571150095 : Nat) : Int) :=
    u64_and_nat (z + z / 16) 1085102592571150095 (by omega) (by omega)
  rw [b3, IntKind.wrap_u64, ← hs]
  exact nat_form _ 72340172838076673 18446744073709551616 72057594037927936 256

set_option maxHeartbeats 400000 in
theorem pop_any (x : Nat) (w : World) (h1 : x < 18446744073709551616) :
    Calls Try.prog 19 #[.int .u64 (x : Int)] w fun e w' => e = .returned (.int .i64 (Pop.pc 64 x : Nat)) ∧ w = w' := by
  have hp := pop_plain x h1
  have Hp := Lib.hid hp
  clear hp
  go_enter Try.func19, Try.ntmps19
  go_wp2
  go_ret
  exact ⟨ret_int Hp.out, rfl⟩

theorem step_fact (m y f z : Nat) (H : Hid (m + Pop.pc (f + 1) y = z)) : Hid (m + y % 2 + Pop.pc f (y / 2) = z) := by
  have := H.out
  rw [show Pop.pc (f + 1) y = y % 2 + Pop.pc f (y / 2) from rfl] at this
  show _ = _
  omega

set_option maxHeartbeats 400000 in
theorem count_any (x : Nat) (w : World) (h1 : x < 18446744073709551616) :
    Calls Try.prog 8 #[.int .u64 (x : Int)] w fun e w' => e = .returned (.int .i64 (Pop.pc 64 x : Nat)) ∧ w = w' := by
  go_enter Try.func8, Try.ntmps8
  go_wp2
  go_loop [0, 3] (fun b n => ∃ y m f : Nat, b = .int .u64 (y : Int) ∧ n = .int .i64 (m : Int) ∧ y < 18446744073709551616 ∧ f ≤ 64 ∧ y < 2 ^ f ∧ m + f ≤ 64 ∧ Hid (m + Pop.pc f y = Pop.pc 64 x)) (fun b _ => (intOf b).toNat)
  case atStart => exact ⟨x, 0, 64, rfl, rfl, h1, Nat.le_refl _, by simpa using h1, by omega, by simp [Hid]⟩
  case round =>
    obtain ⟨y, m, f, rfl, rfl, hy, hf, hyf, hm, H⟩ := hrel
    by_cases hz : y = 0
    · subst hz
      go_wp2
      go_ret
      exact ⟨ret_int (by have := H.out; rw [Pop.pc_zero] at this; omega), rfl⟩
    · cases f with
      | zero => exact absurd (by simpa using hyf) hz
      | succ f =>
        have hpos : 0 < (y : Int) := by omega
        go_wp2
        go_round
        case rel => exact ⟨y / 2, m + y % 2, f, by go_num, by go_num, by omega, by omega, by rw [Nat.pow_succ] at hyf; omega, by omega, step_fact m y f _ H⟩
        case measure => simp [intOf]; omega
end Go.Proofs.Ytgalbnppeboonaa
