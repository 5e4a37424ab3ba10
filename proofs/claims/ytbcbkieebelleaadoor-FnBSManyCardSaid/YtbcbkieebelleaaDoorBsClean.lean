/- Walks of BitSet's cleanLastWord, ClearAll, SetAll. -/
import Derived.Test.YtbcbkieebelleaaDoorBsExt
namespace Go.Proofs.YtbcbkieebelleaaDoor
set_option linter.unusedVariables false
open Go.RowKit

/-- the bits up to L alone -/
theorem Bsm.low_bit (X k j : Nat) (hk : 0 < k) (hk2 : k < 64) : (X &&& (18446744073709551615 >>> (64 - k))).testBit j = (X.testBit j && decide (j < k)) := by
  have e : (18446744073709551615 : Nat) = 2 ^ 64 - 1 := by rfl
  rw [Nat.testBit_and, Nat.testBit_shiftRight, e, Nat.testBit_two_pow_sub_one]
  congr 1
  rw [decide_eq_decide]
  omega

/-- the words below i are c -/
def Bsm.lay (c : Nat) (ws : List Nat) : Nat → List Nat
  | 0 => ws
  | i + 1 => (Bsm.lay c ws i).set i c
theorem Bsm.lay_len (c : Nat) (ws : List Nat) (i : Nat) : (Bsm.lay c ws i).length = ws.length := by
  induction i with
  | zero => rfl
  | succ i ih => simp [Bsm.lay, ih]
theorem Bsm.lay_getD (c : Nat) (ws : List Nat) (i : Nat) (q : Nat) (hi : i ≤ ws.length) : (Bsm.lay c ws i).getD q 0 = if q < i then c else ws.getD q 0 := by
  induction i with
  | zero => simp [Bsm.lay]
  | succ i ih =>
    have ih' := ih (by omega)
    simp only [Bsm.lay, List.getD_eq_getElem?_getD] at ih' ⊢
    by_cases e : i = q
    · subst e
      rw [List.getElem?_set_self (by rw [Bsm.lay_len]; omega), if_pos (by omega)]
      rfl
    · rw [List.getElem?_set_ne e, ih']
      by_cases h : q < i
      · rw [if_pos h, if_pos (by omega)]
      · rw [if_neg h, if_neg (by omega)]
theorem Bsm.bit_lay (c : Nat) (ws : List Nat) (j : Nat) : Bsm.bit (Bsm.lay c ws ws.length) j = if j / 64 < ws.length then c.testBit (j % 64) else false := by
  unfold Bsm.bit
  rw [Bsm.lay_getD _ _ _ _ (Nat.le_refl _)]
  split
  · rfl
  · rename_i h
    rw [List.getD_eq_getElem?_getD, List.getElem?_eq_none (by omega)]
    simp

/-- a store into a word of a bitset -/
theorem Bs.put {B p L : Nat} {ws : List Nat} {cap : Nat} {w : World} {g : Nat} (h : Bs B w p L ws cap) (hg : w.cell? ⟨p, 1, none⟩ = some (.slice (some ⟨g, 0, none⟩) ws.length cap)) (q y : Nat) (hy : y < 18446744073709551616) (hq : q < ws.length) :
    Bs B (w.setCell ⟨g, q, none⟩ (.int .u64 (y : Int))) p L (ws.set q y) cap ∧ Below B w (w.setCell ⟨g, q, none⟩ (.int .u64 (y : Int))) ∧ w.frozen? ⟨g, q, none⟩ = false ∧
      w.cell? ⟨g, q, none⟩ = some (.int .u64 (ws.getD q 0 : Nat)) ∧ (w.setCell ⟨g, q, none⟩ (.int .u64 (y : Int))).cell? ⟨p, 1, none⟩ = some (.slice (some ⟨g, 0, none⟩) ws.length cap) := by
  obtain ⟨g', h1, h2, h3, h4, h5⟩ := h
  have c1 : w.cell? ⟨p, 1, none⟩ = some (.slice (some ⟨g', 0, none⟩) ws.length cap) := h3.cell 1 rfl
  rw [hg] at c1
  obtain rfl : g = g' := by simpa using c1
  have hst := Bs.store h1 h2 h3 h4 h5 q y hy
  have c2 := h4.cellAt q (by omega)
  rw [u64s_at ws q hq] at c2
  exact ⟨hst.1, hst.2, h4.frozenAt q, c2, (h3.other (Ne.symm h2) _).cell 1 rfl⟩
/-- the cells of a bitset -/
theorem Bs.cells {B p L : Nat} {ws : List Nat} {cap : Nat} {w : World} (h : Bs B w p L ws cap) :
    ∃ g, w.cell? ⟨p, 0, none⟩ = some (.int .u64 (L : Int)) ∧ w.cell? ⟨p, 1, none⟩ = some (.slice (some ⟨g, 0, none⟩) ws.length cap) ∧
      ∀ q, q < ws.length → w.cell? ⟨g, q, none⟩ = some (.int .u64 (ws.getD q 0 : Nat)) := by
  obtain ⟨g, h1, h2, h3, h4, h5⟩ := h
  refine ⟨g, h3.cell 0 rfl, h3.cell 1 rfl, fun q hq => ?_⟩
  have c2 := h4.cellAt q (by omega)
  rwa [u64s_at ws q hq] at c2

def LayLoop (c : Nat) (B p L : Nat) (ws : List Nat) (cap g n : Nat) (w : World) (k : Nat) (idx : Value) (wr : World) : Prop :=
  ∃ i : Nat, idx = .int .i64 (i : Int) ∧ i + k = n ∧ Bs B wr p L (Bsm.lay c ws i) cap ∧ wr.cell? ⟨p, 1, none⟩ = some (.slice (some ⟨g, 0, none⟩) n cap) ∧ Below B w wr

end Go.Proofs.YtbcbkieebelleaaDoor
