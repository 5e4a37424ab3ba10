/- math/bits.TrailingZeros64 over its table, and the first place from one on at which something holds. -/
import Derived.Test.YtbcbkieebelleaaDoorBsWords
import Derived.Shelf.Spec.TrailingZeros
import Derived.Outline
namespace Go.Proofs.YtbcbkieebelleaaDoor
set_option linter.unusedVariables false
open Go.RowKit

/-- the table of TrailingZeros64 lies in its variable -/
def Tab (w : World) : Prop := TabAt 0 Lib.deBruijn64tab w
theorem Tab.of_cells {w w' : World} (h : Tab w) (hc : ∀ j, w'.cell? ⟨0, j, none⟩ = w.cell? ⟨0, j, none⟩) : Tab w' := fun j hj => (hc j).trans (h j hj)
theorem Tab.lt {w : World} (h : Tab w) : 0 < w.heap.size := World.block_lt_of_cell? w _ (h 0 (by decide))
theorem Tab.below {w w' : World} {B : Nat} (h : Tab w) (hb : Below B w w') (hB : 0 < B) : Tab w' := h.of_cells fun j => hb.cell (p := ⟨0, j, none⟩) hB
theorem Tab.drewN {w : World} (h : Tab w) (n : Nat) : Tab (w.drewN n) := h

set_option maxHeartbeats 400000 in
theorem tz_core (x k idx : Nat) (w : World) (h0 : ((x : Int) == 0) = false)
    (key : IntKind.u64.wrap (bits BinOp.and IntKind.u64 (x : Int) (IntKind.u64.wrap (-(x : Int))) * 285870213051353865) / 288230376151711744 = (idx : Int))
    (hi : idx < 64) (hk : k < 64) (hcell : w.cell? ⟨0, idx, none⟩ = some (.int .u8 k)) :
    Calls Tryd.prog 21 #[.int .u64 (x : Int)] w fun e w' => e = .returned (.int .i64 k) ∧ w = w' := by
  go_enter Tryd.func21, Tryd.ntmps21
  go_wp2_with (simp only [key])
  go_ret
  exact ⟨rfl, rfl⟩
theorem tz_any (x : Nat) (hx : x < 18446744073709551616) (hx0 : x ≠ 0) (w : World) (hT : Tab w) :
    Calls Tryd.prog 21 #[.int .u64 (x : Int)] w fun e w' => e = .returned (.int .i64 (Lib.ctz 64 x : Nat)) ∧ w = w' := by
  obtain ⟨hlow, hk⟩ := Lib.lowest_bit 64 x hx0 hx
  obtain ⟨hi, htab⟩ := Lib.deBruijn64_at _ hk
  have hcell := hT _ hi
  rw [htab] at hcell
  exact tz_core x _ _ w (by simp; omega) (tz64_key x _ hx hx0 hlow) hi hk hcell

theorem ctz_lt (x : Nat) (hx0 : x ≠ 0) (hx : x < 18446744073709551616) : Lib.ctz 64 x < 64 := (Lib.lowest_bit 64 x hx0 hx).2
theorem ctz_bits (x : Nat) (hx0 : x ≠ 0) (hx : x < 18446744073709551616) : x.testBit (Lib.ctz 64 x) = true ∧ ∀ j, j < Lib.ctz 64 x → x.testBit j = false := by
  obtain ⟨m, h1, h2⟩ := Lib.ctzFrom_spec 64 x (by omega) hx
  have e : Lib.ctz 64 x = Lib.ctzFrom 64 x := by simp [Lib.ctz, hx0]
  rw [e]
  generalize Lib.ctzFrom 64 x = k at *
  rw [h1]
  refine ⟨?_, fun j hj => ?_⟩
  · rw [Nat.testBit_two_pow_mul]
    have : (2 * m + 1).testBit (k - k) = true := by
      rw [Nat.sub_self, Nat.testBit_zero]
      simp
    simp [this]
  · rw [Nat.testBit_two_pow_mul]
    simp
    omega

/-- r is the first place from i on, and before L, at which f holds -/
def IsNext (f : Nat → Bool) (L i : Nat) : Option Nat → Prop
  | some j => i ≤ j ∧ j < L ∧ f j = true ∧ ∀ q, i ≤ q → q < j → f q = false
  | none => ∀ q, i ≤ q → q < L → f q = false
theorem IsNext.one {f : Nat → Bool} {L i : Nat} {r s : Option Nat} (hr : IsNext f L i r) (hs : IsNext f L i s) : r = s := by
  cases r with
  | none =>
    cases s with
    | none => rfl
    | some j => obtain ⟨h1, h2, h3, _⟩ := hs; rw [hr j h1 h2] at h3; cases h3
  | some j =>
    obtain ⟨h1, h2, h3, h4⟩ := hr
    cases s with
    | none => rw [hs j h1 h2] at h3; cases h3
    | some k =>
      obtain ⟨k1, k2, k3, k4⟩ := hs
      rcases Nat.lt_trichotomy j k with h | h | h
      · rw [k4 j h1 h] at h3; cases h3
      · rw [h]
      · rw [h4 k k1 h] at k3; cases k3
theorem IsNext.congr {f g : Nat → Bool} {L i : Nat} {r : Option Nat} (h : IsNext f L i r) (e : ∀ j, i ≤ j → j < L → f j = g j) : IsNext g L i r := by
  cases r with
  | none => exact fun q h1 h2 => by rw [← e q h1 h2]; exact h q h1 h2
  | some j =>
    obtain ⟨h1, h2, h3, h4⟩ := h
    exact ⟨h1, h2, by rw [← e j h1 h2]; exact h3, fun q hq hj => by rw [← e q hq (by omega)]; exact h4 q hq hj⟩
/-- places at which f cannot hold make no difference -/
theorem IsNext.grow {f : Nat → Bool} {L M i : Nat} {r : Option Nat} (h : IsNext f L i r) (hLM : L ≤ M) (hf : ∀ j, L ≤ j → f j = false) : IsNext f M i r := by
  cases r with
  | none => exact fun q h1 _ => by
              by_cases hq : q < L
              · exact h q h1 hq
              · exact hf q (by omega)
  | some j => obtain ⟨h1, h2, h3, h4⟩ := h; exact ⟨h1, by omega, h3, h4⟩
/-- what is returned: the place and whether there is one -/
def nextv : Option Nat → Value
  | some j => .tuple #[.int .u64 (j : Int), .bool true]
  | none => .tuple #[.int .u64 0, .bool false]

theorem getD_past (ws : List Nat) (q : Nat) (h : ws.length ≤ q) : ws.getD q 0 = 0 := by
  rw [List.getD_eq_getElem?_getD, List.getElem?_eq_none h]; rfl
theorem bit_past (ws : List Nat) (j : Nat) (h : 64 * ws.length ≤ j) : Bsm.bit ws j = false := by
  unfold Bsm.bit; rw [getD_past ws _ (by omega)]; simp
/-- the first word of a search -/
theorem tzs_bits (ws : List Nat) (i k : Nat) (hk : i % 64 + k < 64) : (ws.getD (i / 64) 0 >>> (i % 64)).testBit k = Bsm.bit ws (i + k) := by
  unfold Bsm.bit
  rw [Nat.testBit_shiftRight, show (i + k) / 64 = i / 64 by omega, show (i + k) % 64 = i % 64 + k by omega]
theorem tzs_some (ws : List Nat) (i : Nat) (hw : ws.getD (i / 64) 0 < 18446744073709551616) (hq : i / 64 < ws.length) (y : Nat) (hy : ws.getD (i / 64) 0 >>> (i % 64) = y) (h0 : y ≠ 0) :
    IsNext (Bsm.bit ws) (64 * ws.length) i (some (i + Lib.ctz 64 y)) ∧ i % 64 + Lib.ctz 64 y < 64 ∧ y < 18446744073709551616 := by
  have hylt : y < 18446744073709551616 := by
    rw [← hy, Nat.shiftRight_eq_div_pow]
    exact Nat.lt_of_le_of_lt (Nat.div_le_self _ _) hw
  obtain ⟨h1, h2⟩ := ctz_bits y h0 hylt
  have hc : i % 64 + Lib.ctz 64 y < 64 := by
    rcases Nat.lt_or_ge (i % 64 + Lib.ctz 64 y) 64 with h | h
    · exact h
    · exfalso
      have : y.testBit (Lib.ctz 64 y) = false := by
        rw [← hy, Nat.testBit_shiftRight]
        exact Nat.testBit_lt_two_pow (Nat.lt_of_lt_of_le hw (by
          have : (18446744073709551616 : Nat) = 2 ^ 64 := by decide
          rw [this]
          rw [hy]
          exact Nat.pow_le_pow_right (by omega) h))
      rw [this] at h1
      cases h1
  generalize Lib.ctz 64 y = c at *
  refine ⟨⟨by omega, by omega, ?_, fun q hq hj => ?_⟩, hc, hylt⟩
  · rw [← tzs_bits ws i c hc, hy]; exact h1
  · have := h2 (q - i) (by omega)
    rw [← hy, tzs_bits ws i (q - i) (by omega)] at this
    rwa [show i + (q - i) = q by omega] at this
theorem tzs_none (ws : List Nat) (i : Nat) (h0 : ws.getD (i / 64) 0 >>> (i % 64) = 0) : ∀ q, i ≤ q → q < 64 * (i / 64 + 1) → Bsm.bit ws q = false := fun q h1 h2 => by
  have := tzs_bits ws i (q - i) (by omega)
  rw [h0] at this
  rw [show q = i + (q - i) by omega, ← this]
  simp
/-- a later word of a search -/
theorem word_some (ws : List Nat) (i q : Nat) (hw : ws.getD q 0 < 18446744073709551616) (hq : q < ws.length) (hi : i ≤ 64 * q) (hpre : ∀ j, i ≤ j → j < 64 * q → Bsm.bit ws j = false) (h0 : ws.getD q 0 ≠ 0) :
    IsNext (Bsm.bit ws) (64 * ws.length) i (some (64 * q + Lib.ctz 64 (ws.getD q 0))) ∧ Lib.ctz 64 (ws.getD q 0) < 64 := by
  obtain ⟨h1, h2⟩ := ctz_bits _ h0 hw
  have hc := ctz_lt _ h0 hw
  generalize Lib.ctz 64 (ws.getD q 0) = c at *
  have hb : ∀ k, k < 64 → Bsm.bit ws (64 * q + k) = (ws.getD q 0).testBit k := fun k hk => by
    unfold Bsm.bit; rw [show (64 * q + k) / 64 = q by omega, show (64 * q + k) % 64 = k by omega]
  refine ⟨⟨by omega, by omega, by rw [hb c hc]; exact h1, fun j hj hjc => ?_⟩, hc⟩
  by_cases h : j < 64 * q
  · exact hpre j hj h
  · have := h2 (j - 64 * q) (by omega)
    rw [← hb _ (by omega), show 64 * q + (j - 64 * q) = j by omega] at this
    exact this
theorem word_none (ws : List Nat) (i q : Nat) (hpre : ∀ j, i ≤ j → j < 64 * q → Bsm.bit ws j = false) (h0 : ws.getD q 0 = 0) : ∀ j, i ≤ j → j < 64 * (q + 1) → Bsm.bit ws j = false := fun j h1 h2 => by
  by_cases h : j < 64 * q
  · exact hpre j h1 h
  · unfold Bsm.bit; rw [show j / 64 = q by omega, h0]; simp
end Go.Proofs.YtbcbkieebelleaaDoor
