/- The walk of impl.BSFlip, and of the law FnBSFlip: it returns true at every input. -/
import Derived.Test.YtbcbkieebelleaaBsGrow
import Derived.Lib.SmallJoins
namespace Go.Proofs.Ytbcbkieebelleaa
set_option linter.unusedVariables false
open Go.RowKit

set_option maxRecDepth 100000 in
/-- an argument of type impl.Bits opens -/
theorem open_bits {H : Type} {enc : TypeId × Value → H} {W : World} {v : Value} {d : DataW H} {p : List MemPlace} {r : Reach} {b0 : Nat}
    (hv : Value.okWide Try.prog W r b0 25 v) (h : DataW.Trod enc Try.prog W 0 (fun _ => true) true 25 v d p) : AnyBits W v := by
  obtain ⟨c0, c1, y0, y1, m, rfl, rfl, rfl, hy0, hy1⟩ := Joins.open_agg2 Try.underlying25 (by kernel_rfl) (by kernel_rfl) hv h
  obtain ⟨x, e0, e1, wx⟩ := DataW.trod_int Try.underlying22 hy0
  simp at e0
  subst e0
  have hb : 0 ≤ x ∧ x ≤ 18446744073709551615 := by
    simp [Lit.wf, IntKind.min, IntKind.max, IntKind.signed, IntKind.bits] at wx
    omega
  obtain ⟨L, rfl⟩ := Int.eq_ofNat_of_zero_le hb.1
  obtain ⟨a, l, c, e⟩ := Joins.slice_form Try.underlying23 hy1
  simp at e
  subst e
  obtain ⟨xs, hsl, hwf⟩ := ints_of_trod Try.underlying23 Try.underlying22 (by kernel_rfl) hy1
  have hx : ∃ l : List Nat, xs.map (Value.int .u64) = u64s l ∧ ∀ x ∈ l, x < 18446744073709551616 := by
    clear hsl
    induction xs with
    | nil => exact ⟨[], rfl, by simp⟩
    | cons z zs ih =>
      obtain ⟨l, hl, hl2⟩ := ih (fun n hn => hwf n (List.mem_cons_of_mem _ hn))
      have hz := hwf z (List.mem_cons_self ..)
      have hb : 0 ≤ z ∧ z ≤ 18446744073709551615 := by
        simp [Lit.wf, IntKind.min, IntKind.max, IntKind.signed, IntKind.bits] at hz
        omega
      obtain ⟨Z, rfl⟩ := Int.eq_ofNat_of_zero_le hb.1
      refine ⟨Z :: l, by rw [List.map_cons, hl]; rfl, fun x hx => ?_⟩
      rcases List.mem_cons.1 hx with rfl | h
      · omega
      · exact hl2 x h
  obtain ⟨l, hl, hl2⟩ := hx
  rw [hl] at hsl
  exact ⟨L, _, l, rfl, by omega, hsl, hl2⟩

theorem put_get (how : Nat) (b : List Bool) (f k j : Nat) (hk : f + k ≤ b.length) : (put how b f k).getD j false = if f ≤ j ∧ j < f + k then putAt how b j else b.getD j false := by
  induction k with
  | zero => simp [put]; omega
  | succ k ih =>
    have ih' := ih (by omega)
    simp only [put, List.getD_eq_getElem?_getD] at ih' ⊢
    by_cases e : f + k = j
    · subst e
      rw [List.getElem?_set_self (by rw [put_len]; omega), if_pos (by omega)]
      rfl
    · rw [List.getElem?_set_ne e, ih']
      by_cases h : f ≤ j ∧ j < f + k
      · rw [if_pos h, if_pos (by omega)]
      · rw [if_neg h, if_neg (by omega)]

theorem eq_bits (ws : List Nat) (L : Nat) (b : List Bool) (hl : b.length = L) (h : ∀ j, j < L → Bsm.bit ws j = b.getD j false) : Bsm.bitsOf ws L = b := by
  apply Bsm.ext_getD
  · rw [Bsm.bitsOf_len, hl]
  · intro j hj
    rw [Bsm.bitsOf_len] at hj
    rw [Bsm.bitsOf_get]
    simp [hj, h j hj]


end Go.Proofs.Ytbcbkieebelleaa
