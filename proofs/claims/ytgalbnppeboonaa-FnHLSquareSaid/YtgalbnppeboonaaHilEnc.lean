/- The walk of hilbert.Encode: it returns the number of the place. -/
import Derived.Test.YtgalbnppeboonaaHilWalk
namespace Go.Proofs.Ytgalbnppeboonaa
set_option linter.unusedVariables false
open Go.RowKit

theorem sq4 (k : Nat) : (2 : Int) ^ k * 2 ^ k = ((4 ^ k : Nat) : Int) := by
  rw [Hil.pow2_int, ← Int.natCast_mul, ← Nat.mul_pow]

theorem four31 : (4 : Nat) ^ 31 = 4611686018427387904 := by decide

/-- the loop's own book: D has been added, k bits are still to come -/
def Book (X Y k : Nat) (D x y : Int) : Prop := D + (Hil.rest k x y : Int) = (Hil.hp 31 X Y : Nat)
def Side (k : Nat) (S : Int) : Prop := S = if k = 0 then 0 else 2 ^ (k - 1)

theorem side_next (k : Nat) (S : Int) (h : Side (k + 1) S) : Side k (S / 2) := by
  unfold Side at *
  simp at h
  subst h
  cases k with
  | zero => decide
  | succ k => simp [Int.pow_succ]

theorem side_eq (k : Nat) (S : Int) (h : Side (k + 1) S) : S = 2 ^ k := by
  unfold Side at h; simpa using h

theorem side_bounds (k : Nat) (S : Int) (hk : k < 31) (h : Side (k + 1) S) : 1 ≤ S ∧ S ≤ 1073741824 ∧ 0 ≤ S * S ∧ S * S ≤ 1152921504606846976 := by
  have e := side_eq k S h
  have h1 : 2 ^ k ≤ 2 ^ 30 := Nat.pow_le_pow_right (by omega) (by omega)
  have h2 : 4 ^ k ≤ 4 ^ 30 := Nat.pow_le_pow_right (by omega) (by omega)
  have h3 : (2 : Nat) ^ 30 = 1073741824 := by decide
  have h4 : (4 : Nat) ^ 30 = 1152921504606846976 := by decide
  have p := Nat.two_pow_pos k
  have q := sq4 k
  subst e
  rw [q, Hil.pow2_int]
  generalize 4 ^ k = u at *
  generalize 2 ^ k = v at *
  omega

theorem book_le (X Y k : Nat) (D x y c : Int) (S : Int) (hs : Side (k + 1) S) (hb : Book X Y (k + 1) D x y) (hc : ∃ r : Nat, (Hil.rest (k + 1) x y : Int) = c * (S * S) + r) :
    D + c * (S * S) ≤ 4611686018427387904 := by
  obtain ⟨r, hr⟩ := hc
  unfold Book at hb
  have l := Hil.hp_lt 31 X Y
  rw [four31] at l
  omega

theorem rest_00 (k : Nat) (x y S : Int) (hs : Side (k + 1) S) (hx : x / 2 ^ k % 2 = 0) (hy : y / 2 ^ k % 2 = 0) : (Hil.rest (k + 1) x y : Int) = 0 * (S * S) + (Hil.rest k y x : Nat) := by
  rw [Hil.rest00 k x y hx hy]; omega
theorem rest_01 (k : Nat) (x y S : Int) (hs : Side (k + 1) S) (hx : x / 2 ^ k % 2 = 0) (hy : y / 2 ^ k % 2 = 1) : (Hil.rest (k + 1) x y : Int) = 1 * (S * S) + (Hil.rest k x y : Nat) := by
  rw [Hil.rest01 k x y hx hy, side_eq k S hs, sq4]; omega
theorem rest_11 (k : Nat) (x y S : Int) (hs : Side (k + 1) S) (hx : x / 2 ^ k % 2 = 1) (hy : y / 2 ^ k % 2 = 1) : (Hil.rest (k + 1) x y : Int) = 2 * (S * S) + (Hil.rest k x y : Nat) := by
  rw [Hil.rest11 k x y hx hy, side_eq k S hs, sq4]; omega
theorem rest_10 (k : Nat) (x y S : Int) (hs : Side (k + 1) S) (hx : x / 2 ^ k % 2 = 1) (hy : y / 2 ^ k % 2 = 0) : (Hil.rest (k + 1) x y : Int) = 3 * (S * S) + (Hil.rest k (S - 1 - y) (S - 1 - x) : Nat) := by
  rw [Hil.rest10 k x y hx hy, side_eq k S hs, sq4]; omega

theorem bit_fact (k : Nat) (x S : Int) (hk : k < 31) (hs : Side (k + 1) S) (h1 : -2147483648 ≤ x) (h2 : x ≤ 2147483647) :
    (x / 2 ^ k % 2 = 0 ∧ bits .and .i32 x S = 0) ∨ (x / 2 ^ k % 2 = 1 ∧ bits .and .i32 x S = S) := by
  have e := side_eq k S hs
  have a := Hil.and_bit_i32 k x hk h1 h2
  have hb : x / 2 ^ k % 2 = 0 ∨ x / 2 ^ k % 2 = 1 := by omega
  subst e
  rw [a]
  rcases hb with b | b <;> rw [b]
  · exact .inl ⟨rfl, by simp⟩
  · exact .inr ⟨rfl, by simp⟩

theorem book_next (X Y k : Nat) (D x y x' y' c S D' : Int) (hb : Book X Y (k + 1) D x y) (hr : (Hil.rest (k + 1) x y : Int) = c * (S * S) + (Hil.rest k x' y' : Nat)) (hD : D' = D + c * (S * S)) : Book X Y k D' x' y' := by
  unfold Book at *; omega

/-- what holds at the head of a round -/
def EncRel (X Y : Nat) (w : World) (k : Nat) (rx ry d s : Value) (wr : World) : Prop :=
  ∃ D x y S r1 r2 : Int, rx = .int .i32 r1 ∧ ry = .int .i32 r2 ∧ d = .int .i64 D ∧ s = .int .i32 S ∧ k ≤ 31 ∧ 0 ≤ D ∧ Side k S ∧ Book X Y k D x y ∧
    2 * S - 2147483648 ≤ x ∧ x ≤ 2147483647 ∧ 2 * S - 2147483648 ≤ y ∧ y ≤ 2147483647 ∧
    One wr w.heap.size 21 (.int .i32 x) ∧ One wr (w.heap.size + 1) 21 (.int .i32 y) ∧ Below w.heap.size w wr

set_option maxHeartbeats 1000000 in
theorem encode_any (X Y : Nat) (w : World) (hX : X < 2147483648) (hY : Y < 2147483648) :
    Calls Try.prog 20 #[.int .i32 (X : Int), .int .i32 (Y : Int)] w fun e w' => e = .returned (.int .i64 (Hil.hp 31 X Y : Nat)) ∧ Below w.heap.size w w' := by
  go_enter Try.func20, Try.ntmps20
  go_wp2
  go_loopg [5, 6, 7, 8] 31 (fun k rx ry d s wr => EncRel X Y w k rx ry d s wr)
  case atStart =>
    refine ⟨0, X, Y, 1073741824, 0, 0, rfl, rfl, rfl, rfl, Nat.le_refl _, Int.le_refl _, by simp [Side], ?_, by omega, by omega, by omega, by omega, ?_, ?_, ?_⟩
    · have e : (2 : Int) ^ 31 = 2147483648 := by decide
      unfold Book Hil.rest
      rw [e, Int.emod_eq_of_lt (by omega) (by omega), Int.emod_eq_of_lt (by omega) (by omega)]
      simp
    · exact (One.new _ _ _).alloc _
    · have := One.new (w.alloc (.cells #[.int .i32 X] 21)) 21 (.int .i32 Y)
      simpa using this
    · exact ((Below.refl _ _).alloc (Nat.le_refl _) _).alloc (by simp) _
  case round =>
    obtain ⟨D, x, y, S, r1, r2, rfl, rfl, rfl, rfl, hk, hD, hs, hb, x1, x2, y1, y2, ox, oy, hbel⟩ := hrel
    have cx := ox.cell
    have cy := oy.cell
    cases gk with
    | zero =>
      have hS : S = 0 := by simpa [Side] using hs
      subst hS
      go_wp2
      go_ret
      refine ⟨ret_int ?_, hbel⟩
      unfold Book Hil.rest at hb
      have z : ∀ a b, Hil.hp 0 a b = 0 := fun _ _ => rfl
      rw [z] at hb
      omega
    | succ k =>
      have sb := side_bounds k S (by omega) hs
      obtain ⟨s1, s2, s3, s4⟩ := sb
      have q00 : bits BinOp.xor IntKind.i32 0 0 = 0 := by decide
      have q01 : bits BinOp.xor IntKind.i32 0 1 = 1 := by decide
      have q11 : bits BinOp.xor IntKind.i32 3 1 = 2 := by decide
      have q10 : bits BinOp.xor IntKind.i32 3 0 = 3 := by decide
      have n1 := side_next k S hs
      rcases bit_fact k x S (by omega) hs (by omega) x2 with ⟨bx, gx⟩ | ⟨bx, gx⟩ <;> rcases bit_fact k y S (by omega) hs (by omega) y2 with ⟨b_y, gy⟩ | ⟨b_y, gy⟩
      · have hr := rest_00 k x y S hs bx b_y
        have hd := book_le X Y k D x y 0 S hs hb ⟨_, hr⟩
        have Hr := Lib.hid hr
        have Hb := Lib.hid hb
        clear hr hb bx b_y
        go_wp2_with fail
        refine (b2i_no _).mono ?_
        rintro e w' ⟨rfl, rfl⟩
        go_wp2_with fail
        refine (b2i_no _).mono ?_
        rintro e w' ⟨rfl, rfl⟩
        go_wp2_with fail
        refine (rot_swap _ _ _ _ _ w.heap.size _ (by omega) (Nat.le_refl _) (by omega) ox oy).mono ?_
        rintro e w1 ⟨rfl, o1, o2, hb1⟩
        go_wp2_with fail
        go_roundg k
        case measure => omega
        case rel => exact ⟨D + 0 * (S * S), y, x, S / 2, _, _, rfl, rfl, by go_num, by go_num, by omega, by omega, n1, book_next X Y k D x y _ _ 0 S _ Hb.out Hr.out rfl, by omega, by omega, by omega, by omega, o1, o2, hbel.trans hb1⟩
      · have hr := rest_01 k x y S hs bx b_y
        have hd := book_le X Y k D x y 1 S hs hb ⟨_, hr⟩
        have Hr := Lib.hid hr
        have Hb := Lib.hid hb
        clear hr hb bx b_y
        go_wp2_with fail
        refine (b2i_no _).mono ?_
        rintro e w' ⟨rfl, rfl⟩
        go_wp2_with fail
        refine (b2i_yes _).mono ?_
        rintro e w' ⟨rfl, rfl⟩
        go_wp2_with fail
        refine (rot_none _ _ _ _ _).mono ?_
        rintro e w' ⟨rfl, rfl⟩
        go_wp2_with fail
        go_roundg k
        case measure => omega
        case rel => exact ⟨D + 1 * (S * S), x, y, S / 2, _, _, rfl, rfl, by go_num, by go_num, by omega, by omega, n1, book_next X Y k D x y _ _ 1 S _ Hb.out Hr.out rfl, by omega, by omega, by omega, by omega, ox, oy, hbel⟩
      · have hr := rest_10 k x y S hs bx b_y
        have hd := book_le X Y k D x y 3 S hs hb ⟨_, hr⟩
        have Hr := Lib.hid hr
        have Hb := Lib.hid hb
        clear hr hb bx b_y
        go_wp2_with fail
        refine (b2i_yes _).mono ?_
        rintro e w' ⟨rfl, rfl⟩
        go_wp2_with fail
        refine (b2i_no _).mono ?_
        rintro e w' ⟨rfl, rfl⟩
        go_wp2_with fail
        refine (rot_flip _ _ _ _ _ w.heap.size _ (by omega) (Nat.le_refl _) (by omega) ox oy (by omega) (by omega) (by omega) (by omega) (by omega) (by omega)).mono ?_
        rintro e w1 ⟨rfl, o1, o2, hb1⟩
        go_wp2_with fail
        go_roundg k
        case measure => omega
        case rel => exact ⟨D + 3 * (S * S), S - 1 - y, S - 1 - x, S / 2, _, _, rfl, rfl, by go_num, by go_num, by omega, by omega, n1, book_next X Y k D x y _ _ 3 S _ Hb.out Hr.out rfl, by omega, by omega, by omega, by omega, o1, o2, hbel.trans hb1⟩
      · have hr := rest_11 k x y S hs bx b_y
        have hd := book_le X Y k D x y 2 S hs hb ⟨_, hr⟩
        have Hr := Lib.hid hr
        have Hb := Lib.hid hb
        clear hr hb bx b_y
        go_wp2_with fail
        refine (b2i_yes _).mono ?_
        rintro e w' ⟨rfl, rfl⟩
        go_wp2_with fail
        refine (b2i_yes _).mono ?_
        rintro e w' ⟨rfl, rfl⟩
        go_wp2_with fail
        refine (rot_none _ _ _ _ _).mono ?_
        rintro e w' ⟨rfl, rfl⟩
        go_wp2_with fail
        go_roundg k
        case measure => omega
        case rel => exact ⟨D + 2 * (S * S), x, y, S / 2, _, _, rfl, rfl, by go_num, by go_num, by omega, by omega, n1, book_next X Y k D x y _ _ 2 S _ Hb.out Hr.out rfl, by omega, by omega, by omega, by omega, ox, oy, hbel⟩
end Go.Proofs.Ytgalbnppeboonaa
