/- The walks of hilbert's functions: boolToInt, rotate, Encode. -/
import Derived.Test.YtgalbnppeboonaaRows
import Derived.Test.YtgalbnppeboonaaHil
import Derived.Test.YtgalbnppeboonaaMem
import Derived.WalkKit
import Derived.WalkSpells
import Derived.WalkLawsBesides
import Derived.Deep.LoopGhost
namespace Go.Proofs.Ytgalbnppeboonaa
set_option linter.unusedVariables false
open Go.RowKit

set_option maxHeartbeats 400000 in
theorem b2i_yes (w : World) : Calls Try.prog 25 #[.bool true] w fun e w' => e = .returned (.int .i32 1) ∧ w = w' := by
  go_enter Try.func25, Try.ntmps25
  go_wp2
  go_ret
  exact ⟨rfl, rfl⟩
set_option maxHeartbeats 400000 in
theorem b2i_no (w : World) : Calls Try.prog 25 #[.bool false] w fun e w' => e = .returned (.int .i32 0) ∧ w = w' := by
  go_enter Try.func25, Try.ntmps25
  go_wp2
  go_ret
  exact ⟨rfl, rfl⟩

/-- what rotate leaves: two cells with new numbers, and nothing else below B is written -/
def Two (B : Nat) (w : World) (b c : Nat) (x y : Int) (w' : World) : Prop := One w' b 21 (.int .i32 x) ∧ One w' c 21 (.int .i32 y) ∧ Below B w w'

set_option maxHeartbeats 400000 in
theorem rot_none (n rx : Int) (p q : Addr) (w : World) :
    Calls Try.prog 26 #[.int .i32 n, .int .i32 rx, .int .i32 1, .pointer (some p), .pointer (some q)] w fun e w' => e = .returned (.tuple #[]) ∧ w = w' := by
  go_enter Try.func26, Try.ntmps26
  go_wp2
  go_end0
  exact ⟨rfl, rfl⟩

set_option maxHeartbeats 400000 in
theorem rot_swap (n x y : Int) (b c B : Nat) (w : World) (hne : b ≠ c) (hb : B ≤ b) (hc : B ≤ c) (hx : One w b 21 (.int .i32 x)) (hy : One w c 21 (.int .i32 y)) :
    Calls Try.prog 26 #[.int .i32 n, .int .i32 0, .int .i32 0, .pointer (some ⟨b, 0, none⟩), .pointer (some ⟨c, 0, none⟩)] w fun e w' => e = .returned (.tuple #[]) ∧ Two B w b c y x w' := by
  have c1 := hx.cell
  have c2 := hy.cell
  have f1 := hx.free
  have f2 := hy.free
  go_enter Try.func26, Try.ntmps26
  go_wp2
  go_end0
  exact ⟨rfl, (hx.set _).other hne _, (hy.other (Ne.symm hne) _).set _, ((Below.refl _ _).setCell hb _).setCell hc _⟩

set_option maxHeartbeats 400000 in
theorem rot_flip (n x y : Int) (b c B : Nat) (w : World) (hne : b ≠ c) (hb : B ≤ b) (hc : B ≤ c) (hx : One w b 21 (.int .i32 x)) (hy : One w c 21 (.int .i32 y))
    (n1 : 0 ≤ n) (n2 : n ≤ 1073741824) (x1 : n - 2147483648 ≤ x) (x2 : x ≤ 2147483647) (y1 : n - 2147483648 ≤ y) (y2 : y ≤ 2147483647) :
    Calls Try.prog 26 #[.int .i32 n, .int .i32 1, .int .i32 0, .pointer (some ⟨b, 0, none⟩), .pointer (some ⟨c, 0, none⟩)] w fun e w' => e = .returned (.tuple #[]) ∧ Two B w b c (n - 1 - y) (n - 1 - x) w' := by
  have c1 := hx.cell
  have c2 := hy.cell
  have f1 := hx.free
  have f2 := hy.free
  go_enter Try.func26, Try.ntmps26
  go_wp2
  go_end0
  exact ⟨rfl, (((hx.set _).other hne _).set _).other hne _, (((hy.other (Ne.symm hne) _).set _).other (Ne.symm hne) _).set _, ((((Below.refl _ _).setCell hb _).setCell hc _).setCell hb _).setCell hc _⟩
end Go.Proofs.Ytgalbnppeboonaa
