/- The walk of hilbert.Decode: of the number of a place it returns the place. -/
import Derived.Test.YtgalbnppeboonaaHilSpec
import Derived.Test.YtgalbnppeboonaaBits
import Derived.BigQuiet
import Derived.Deep.QuietTactic
namespace Go.Proofs.Ytgalbnppeboonaa
set_option linter.unusedVariables false
open Go.RowKit

/-- the book of the second loop: behind j rounds the place of the j lowest digits -/
def DBook (h : Int) (j : Nat) (x y : Nat) (T S : Int) : Prop := S = 2 ^ j ∧ T = h / 4 ^ j ∧ ((Hil.hp j x y : Nat) : Int) = h % 4 ^ j ∧ x < 2 ^ j ∧ y < 2 ^ j

theorem four_int (k : Nat) : ((4 : Int) ^ k) = ((4 ^ k : Nat) : Int) := by simp

theorem dbook_next (h : Int) (j x y x' y' : Nat) (T S T' S' : Int) (q : Nat) (h0 : 0 ≤ h) (b : DBook h j x y T S) (hq : T % 4 = q) (hT : T' = T / 4) (hS : S' = S * 2)
    (hp : Hil.hp (j + 1) x' y' = q * 4 ^ j + Hil.hp j x y) (hx : x' < 2 ^ (j + 1)) (hy : y' < 2 ^ (j + 1)) : DBook h (j + 1) x' y' T' S' := by
  obtain ⟨b1, b2, b3, b4, b5⟩ := b
  obtain ⟨n, rfl⟩ := Int.eq_ofNat_of_zero_le h0
  rw [four_int] at b2 b3
  refine ⟨by rw [hS, b1, Int.pow_succ], ?_, ?_, hx, hy⟩
  · rw [hT, b2, four_int, Nat.pow_succ, Int.ediv_ediv_of_nonneg (by omega), Int.natCast_mul]
    rfl
  · have d := Hil.digit4 n j
    rw [four_int, ← Int.natCast_emod, d, hp]
    have e1 : n / 4 ^ j % 4 = q := by
      rw [← Int.natCast_ediv] at b2
      omega
    rw [e1]
    rw [← Int.natCast_emod] at b3
    omega

theorem dbook_bounds (h : Int) (j x y : Nat) (T S : Int) (hj : j ≤ 31) (h0 : 0 ≤ h) (h1 : h < 4611686018427387904) (b : DBook h j x y T S) :
    1 ≤ S ∧ S ≤ 2147483648 ∧ (j < 31 → S ≤ 1073741824) ∧ 0 ≤ T ∧ T < 4611686018427387904 ∧ (x : Int) < S ∧ (y : Int) < S ∧ (j = 31 → S = 2147483648) := by
  obtain ⟨b1, b2, b3, b4, b5⟩ := b
  have p := Nat.two_pow_pos j
  have l1 : 2 ^ j ≤ 2 ^ 31 := Nat.pow_le_pow_right (by omega) hj
  have l2 : j < 31 → 2 ^ j ≤ 2 ^ 30 := fun hl => Nat.pow_le_pow_right (by omega) (by omega)
  have l3 : j = 31 → 2 ^ j = 2 ^ 31 := fun e => by rw [e]
  have n1 : (2 : Nat) ^ 31 = 2147483648 := by decide
  have n2 : (2 : Nat) ^ 30 = 1073741824 := by decide
  rw [Hil.pow2_int] at b1
  rw [n1] at l1 l3
  rw [n2] at l2
  have t0 : 0 ≤ T := by rw [b2, four_int]; exact Int.ediv_nonneg h0 (Int.natCast_nonneg _)
  have t1 : T ≤ h := by rw [b2, four_int]; exact Int.ediv_le_self _ h0
  subst b1
  generalize 2 ^ j = s at *
  refine ⟨by omega, by omega, fun hl => by have := l2 hl; omega, t0, by omega, by omega, by omega, fun hl => by have := l3 hl; omega⟩

/-- what holds at the head of a round -/
def DecRel (h : Int) (w : World) (k : Nat) (ry rx t s : Value) (wr : World) : Prop :=
  ∃ (x y : Nat) (T S r1 r2 : Int), rx = .int .i64 r1 ∧ ry = .int .i64 r2 ∧ t = .int .i64 T ∧ s = .int .i64 S ∧ k ≤ 31 ∧ DBook h (31 - k) x y T S ∧
    One wr w.heap.size 21 (.int .i32 (x : Int)) ∧ One wr (w.heap.size + 1) 21 (.int .i32 (y : Int)) ∧ Below w.heap.size w wr

set_option maxHeartbeats 1000000 in
theorem decode_any (X Y : Nat) (h : Int) (w : World) (hX : X < 2 ^ 31) (hY : Y < 2 ^ 31) (hh : h = (Hil.hp 31 X Y : Nat)) :
    Calls Try.prog 24 #[.int .i64 h] w fun e w' => e = .returned (.tuple #[.int .i32 (X : Int), .int .i32 (Y : Int)]) ∧ Below w.heap.size w w' := by
  have h0 : 0 ≤ h := by omega
  have h1 : h < 4611686018427387904 := by have := Hil.hp_lt 31 X Y; rw [four31] at this; omega
  have HH := Lib.hid hh
  clear hh
  go_enter Try.func24, Try.ntmps24
  go_wp2
  go_loopg [4, 5, 8, 9] 31 (fun k ry rx t s wr => DecRel h w k ry rx t s wr)
  case atStart =>
    refine ⟨0, 0, h, 1, 0, 0, rfl, rfl, rfl, rfl, Nat.le_refl _, ⟨rfl, by simp, ?_, by decide, by decide⟩, ?_, ?_, ?_⟩
    · show ((0 : Nat) : Int) = h % 4 ^ 0
      simp [Int.emod_one]
    · exact (One.new _ _ _).alloc _
    · have := One.new (w.alloc (.cells #[.int .i32 0] 21)) 21 (.int .i32 0)
      simpa using this
    · exact ((Below.refl _ _).alloc (Nat.le_refl _) _).alloc (by simp) _
  case round =>
    obtain ⟨x, y, T, S, r1, r2, rfl, rfl, rfl, rfl, hk, hb, ox, oy, hbel⟩ := hrel
    obtain ⟨s1, s2, s3, t0, t1, xs, ys, s4⟩ := dbook_bounds h _ x y T S (by omega) h0 h1 hb
    cases gk with
    | zero =>
      have hS := s4 rfl
      have cx := ox.cell
      have cy := oy.cell
      have e : X = x ∧ Y = y := by
        obtain ⟨_, _, b3, b4, b5⟩ := hb
        rw [HH.out] at b3
        have l := Hil.hp_lt 31 X Y
        rw [four_int, ← Int.natCast_emod, Nat.mod_eq_of_lt l] at b3
        exact Hil.hp_inj 31 X Y x y hX hY b4 b5 (by have b6 : ((Hil.hp 31 x y : Nat) : Int) = _ := b3; omega)
      obtain ⟨rfl, rfl⟩ := e
      subst hS
      go_wp2
      go_quiet (fail)
      go_wp2
      go_ret2
      exact ⟨rfl, below_drewN hbel _⟩
    | succ k =>
      have s3' := s3 (by omega)
      have hj : 31 - k = (31 - (k + 1)) + 1 := by omega
      have Hj := Lib.hid hj
      have Hb := Lib.hid hb
      have a0 := i64_one_and (T / 2) (by omega) (by omega)
      have a1 := i64_one_and T (by omega) (by omega)
      have a2 := xor_zero_i64 T (by omega) (by omega)
      have a3 := i64_one_and_xor T (by omega) (by omega)
      have p2 : (2 : Nat) ^ (31 - (k + 1) + 1) = 2 * 2 ^ (31 - (k + 1)) := by rw [Nat.pow_succ, Nat.mul_comm]
      have P2 := Lib.hid p2
      have bx : x < 2 ^ (31 - (k + 1)) := hb.2.2.2.1
      have b_y : y < 2 ^ (31 - (k + 1)) := hb.2.2.2.2
      have es : S = ((2 ^ (31 - (k + 1)) : Nat) : Int) := by rw [hb.1, Hil.pow2_int]
      have Es := Lib.hid es
      clear s3 s4 hj hb p2 es
      obtain ⟨q, hq⟩ : ∃ q : Nat, T % 4 = q := ⟨(T % 4).toNat, by omega⟩
      have hq4 : q = 0 ∨ q = 1 ∨ q = 2 ∨ q = 3 := by omega
      have Q := Lib.hid hq
      rcases hq4 with rfl | rfl | rfl | rfl
      · rw [show T / 2 % 2 = 0 from by omega] at a0
        rw [show T % 2 = 0 from by omega] at a1
        clear a3 hq
        go_wp2_with fail
        refine (rot_swap _ _ _ _ _ w.heap.size _ (by omega) (Nat.le_refl _) (by omega) ox oy).mono ?_
        rintro e w1 ⟨rfl, o1, o2, hb1⟩
        have cx := o1.cell
        have cy := o2.cell
        have fx := o1.free
        have fy := o2.free
        go_wp2_with fail
        go_roundg k
        case measure => omega
        case rel =>
          refine ⟨y, x, T / 4, S * 2, _, _, rfl, rfl, by go_num, by go_num, by omega, ?_, ?_, ?_, ?_⟩
          · rw [Hj.out]
            exact dbook_next h _ x y _ _ T S _ _ 0 h0 Hb.out Q.out rfl rfl (by rw [Hil.back0 _ _ _ bx b_y]; omega) (by rw [P2.out]; omega) (by rw [P2.out]; omega)
          · exact (((o1.set _).other (by simp) _)).cast (congrArg (Value.int IntKind.i32) (by have := Es.out; omega))
          · exact ((o2.other (by simp) _).set _).cast (congrArg (Value.int IntKind.i32) (by have := Es.out; omega))
          · exact ((hbel.trans hb1).setCell (Nat.le_refl _) _).setCell (by simp) _
      · rw [show T / 2 % 2 = 0 from by omega] at a0
        rw [show T % 2 = 1 from by omega] at a1
        clear a3 hq
        go_wp2_with fail
        refine (rot_none _ _ _ _ _).mono ?_
        rintro e w1 ⟨rfl, rfl⟩
        have cx := ox.cell
        have cy := oy.cell
        have fx := ox.free
        have fy := oy.free
        go_wp2_with fail
        go_roundg k
        case measure => omega
        case rel =>
          refine ⟨x, y + 2 ^ (31 - (k + 1)), T / 4, S * 2, _, _, rfl, rfl, by go_num, by go_num, by omega, ?_, ?_, ?_, ?_⟩
          · rw [Hj.out]
            exact dbook_next h _ x y _ _ T S _ _ 1 h0 Hb.out Q.out rfl rfl (by rw [Hil.back1 _ _ _ bx]; omega) (by rw [P2.out]; omega) (by rw [P2.out]; omega)
          · exact (((ox.set _).other (by simp) _)).cast (congrArg (Value.int IntKind.i32) (by have := Es.out; omega))
          · exact ((oy.other (by simp) _).set _).cast (congrArg (Value.int IntKind.i32) (by have := Es.out; omega))
          · exact ((hbel).setCell (Nat.le_refl _) _).setCell (by simp) _
      · rw [show T / 2 % 2 = 1 from by omega] at a0
        rw [show 1 - T % 2 = 1 from by omega] at a3
        clear a1 a2 hq
        go_wp2_with fail
        refine (rot_none _ _ _ _ _).mono ?_
        rintro e w1 ⟨rfl, rfl⟩
        have cx := ox.cell
        have cy := oy.cell
        have fx := ox.free
        have fy := oy.free
        go_wp2_with fail
        go_roundg k
        case measure => omega
        case rel =>
          refine ⟨x + 2 ^ (31 - (k + 1)), y + 2 ^ (31 - (k + 1)), T / 4, S * 2, _, _, rfl, rfl, by go_num, by go_num, by omega, ?_, ?_, ?_, ?_⟩
          · rw [Hj.out]
            exact dbook_next h _ x y _ _ T S _ _ 2 h0 Hb.out Q.out rfl rfl (by rw [Hil.back2]) (by rw [P2.out]; omega) (by rw [P2.out]; omega)
          · exact (((ox.set _).other (by simp) _)).cast (congrArg (Value.int IntKind.i32) (by have := Es.out; omega))
          · exact ((oy.other (by simp) _).set _).cast (congrArg (Value.int IntKind.i32) (by have := Es.out; omega))
          · exact ((hbel).setCell (Nat.le_refl _) _).setCell (by simp) _
      · rw [show T / 2 % 2 = 1 from by omega] at a0
        rw [show 1 - T % 2 = 0 from by omega] at a3
        clear a1 a2 hq
        go_wp2_with fail
        refine (rot_flip _ _ _ _ _ w.heap.size _ (by omega) (Nat.le_refl _) (by omega) ox oy (by omega) (by omega) (by omega) (by omega) (by omega) (by omega)).mono ?_
        rintro e w1 ⟨rfl, o1, o2, hb1⟩
        have cx := o1.cell
        have cy := o2.cell
        have fx := o1.free
        have fy := o2.free
        go_wp2_with fail
        go_roundg k
        case measure => omega
        case rel =>
          refine ⟨2 ^ (31 - (k + 1)) - 1 - y + 2 ^ (31 - (k + 1)), 2 ^ (31 - (k + 1)) - 1 - x, T / 4, S * 2, _, _, rfl, rfl, by go_num, by go_num, by omega, ?_, ?_, ?_, ?_⟩
          · rw [Hj.out]
            exact dbook_next h _ x y _ _ T S _ _ 3 h0 Hb.out Q.out rfl rfl (by rw [Hil.back3 _ _ _ bx b_y]) (by rw [P2.out]; omega) (by rw [P2.out]; omega)
          · exact (((o1.set _).other (by simp) _)).cast (congrArg (Value.int IntKind.i32) (by have := Es.out; omega))
          · exact ((o2.other (by simp) _).set _).cast (congrArg (Value.int IntKind.i32) (by have := Es.out; omega))
          · exact ((hbel.trans hb1).setCell (Nat.le_refl _) _).setCell (by simp) _
end Go.Proofs.Ytgalbnppeboonaa
