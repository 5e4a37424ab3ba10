/- Walks of (*BitSet).top and ShiftRight. -/
import Derived.Test.YtbgmkojiklphmaaBsShrMath
import Derived.Test.YtbgmkojiklphmaaBsWords
import Derived.Test.YtbgmkojiklphmaaShelf
import Derived.Outline
namespace Go.Proofs.Ytbgmkojiklphmaa
set_option linter.unusedVariables false
open Go.RowKit

def TopLoop (ws : List Nat) (q0 : Nat) (n : Nat) (w : World) (k : Nat) (idx : Value) (wr : World) : Prop :=
  ∃ x : Int, idx = .int .i64 x ∧ x + 1 = (k : Int) ∧ k ≤ n ∧ q0 ≤ k ∧ (∀ q, k ≤ q → ws.getD q 0 = 0) ∧ wr = w

set_option maxRecDepth 100000 in
set_option maxHeartbeats 2000000 in
theorem top_none (B p L : Nat) (ws : List Nat) (cap : Nat) (w : World) (hb : Bs B w p L ws cap) (hn9 : ws.length ≤ 1000) (hz : ∀ j, Bsm.bit ws j = false) :
    Calls Try.prog 96 #[.pointer (some ⟨p, 0, none⟩)] w fun e w' => e = .returned (.tuple #[.int .u64 0, .bool false]) ∧ w = w' := by
  obtain ⟨g, c0, c1, c2⟩ := hb.cells
  obtain ⟨n, hn⟩ : ∃ n, ws.length = n := ⟨_, rfl⟩
  have hwlt := hb.word_lt
  have hz2 : ∀ q, ws.getD q 0 = 0 := fun q => Bsm.word_of_bits ws q (hwlt q) fun j _ => hz j
  have hcell : ∀ q, q < n → w.cell? ⟨g, q, none⟩ = some (.int .u64 0) := fun q hq => by have := c2 q (by omega); rwa [hz2 q] at this
  rw [hn] at c1 hn9
  have HCELL := Lib.hid hcell
  have HZ2 := Lib.hid hz2
  clear hb hn c2 hwlt hz hz2 hcell c0
  go_enter Try.func96, Try.ntmps96
  go_wp2_with fail
  go_loopg [4] n (fun k idx wr => TopLoop ws 0 n w k idx wr)
  case atStart => exact ⟨_, rfl, by omega, Nat.le_refl _, Nat.zero_le _, fun q _ => HZ2.out q, rfl⟩
  case round =>
    obtain ⟨x, rfl, hx, hkn, _, hz, rfl⟩ := hrel
    clear hz
    cases gk with
    | zero =>
      obtain rfl : x = -1 := by omega
      go_wp2_with fail
      go_ret2
      exact ⟨rfl, rfl⟩
    | succ k =>
      obtain rfl : x = (k : Int) := by omega
      have hc := HCELL.out k (by omega)
      clear hx
      go_wp2_with fail
      go_roundg k
      case measure => omega
      case rel => exact ⟨_, rfl, by omega, by omega, by omega, fun q _ => HZ2.out q, rfl⟩

set_option maxRecDepth 100000 in
set_option maxHeartbeats 2000000 in
theorem top_some (B p L t : Nat) (ws : List Nat) (cap : Nat) (w : World) (hb : Bs B w p L ws cap) (hn9 : ws.length ≤ 1000) (ht : Bsm.bit ws t = true) (hz : ∀ j, t < j → Bsm.bit ws j = false) :
    Calls Try.prog 96 #[.pointer (some ⟨p, 0, none⟩)] w fun e w' => e = .returned (.tuple #[.int .u64 (t : Int), .bool true]) ∧ w = w' := by
  obtain ⟨g, c0, c1, c2⟩ := hb.cells
  obtain ⟨n, hn⟩ : ∃ n, ws.length = n := ⟨_, rfl⟩
  have hwlt := hb.word_lt
  have hz2 : ∀ q, t / 64 + 1 ≤ q → ws.getD q 0 = 0 := fun q hq => Bsm.word_of_bits ws q (hwlt q) fun j hj => hz j (by omega)
  have hcell : ∀ q, q < n → t / 64 < q → w.cell? ⟨g, q, none⟩ = some (.int .u64 0) := fun q hq h => by have := c2 q (by omega); rwa [hz2 q (by omega)] at this
  have hqn : t / 64 < n := by
    rcases Nat.lt_or_ge (t / 64) n with h | h
    · exact h
    · unfold Bsm.bit at ht; rw [List.getD_eq_getElem?_getD, List.getElem?_eq_none (by omega)] at ht; simp at ht
  have hctop := c2 (t / 64) (by omega)
  have hlen := Bsm.bitLen_top (ws.getD (t / 64) 0) (t % 64) (hwlt _) (by omega) ht (fun j hj => by
    by_cases h : j < 64
    · have := hz (64 * (t / 64) + j) (by omega)
      unfold Bsm.bit at this
      rwa [show (64 * (t / 64) + j) / 64 = t / 64 from by omega, show (64 * (t / 64) + j) % 64 = j from by omega] at this
    · exact Bsm.big_bit _ _ (hwlt _) (by omega))
  obtain ⟨X, hX⟩ : ∃ X, ws.getD (t / 64) 0 = X := ⟨_, rfl⟩
  have hXl := hwlt (t / 64)
  have hX0 : ¬ X = 0 := by
    intro e
    unfold Bsm.bit at ht
    rw [hX, e] at ht; simp at ht
  rw [hX] at hctop hlen hXl
  obtain ⟨q0, hq0⟩ : ∃ q0, t / 64 = q0 := ⟨_, rfl⟩
  rw [hq0] at hctop hcell hqn hz2
  rw [hn] at c1 hn9
  have HCELL := Lib.hid hcell
  have HTOP := Lib.hid hctop
  have HLEN := Lib.hid hlen
  have HXL := Lib.hid hXl
  have HQ := Lib.hid hq0
  have hX1 : ¬ (X : Int) = 0 := by omega
  have HZ2 := Lib.hid hz2
  have hzn : ∀ q, n ≤ q → ws.getD q 0 = 0 := fun q hq => hz2 q (by omega)
  have HZN := Lib.hid hzn
  clear hb hn c2 hwlt hz hz2 hcell c0 hctop hlen hXl hX ht hX0 hq0 hzn
  go_enter Try.func96, Try.ntmps96
  go_wp2_with fail
  go_loopg [4] n (fun k idx wr => TopLoop ws (q0 + 1) n w k idx wr)
  case atStart => exact ⟨_, rfl, by omega, Nat.le_refl _, by omega, HZN.out, rfl⟩
  case round =>
    obtain ⟨x, rfl, hx, hkn, hqk, hz, rfl⟩ := hrel
    clear hz
    cases gk with
    | zero => omega
    | succ k =>
      obtain rfl : x = (k : Int) := by omega
      clear hx
      by_cases hk : q0 < k
      · have hc := HCELL.out k (by omega) hk
        go_wp2_with fail
        go_roundg k
        case measure => omega
        case rel => exact ⟨_, rfl, by omega, by omega, by omega, fun q hq => HZ2.out q (by omega), rfl⟩
      · obtain rfl : k = q0 := by omega
        have hc := HTOP.out
        have hr64 : t % 64 < 64 := by omega
        go_wp2_with fail
        refine (Try.bits_Len64 (X : Int) _ (by omega) (by have := HXL.out; omega)).mono ?_
        rintro e w2 ⟨rfl, rfl⟩
        rw [Int.toNat_natCast, HLEN.out]
        go_wp2_with fail
        go_ret2
        have e0 : (k : Int) * 64 + ((t : Int) % 64 + 1) - 1 = (t : Int) := by have := HQ.out; omega
        exact ⟨congrArg (fun z => Ending.returned (.tuple #[.int .u64 z, .bool true])) e0, rfl⟩
end Go.Proofs.Ytbgmkojiklphmaa
