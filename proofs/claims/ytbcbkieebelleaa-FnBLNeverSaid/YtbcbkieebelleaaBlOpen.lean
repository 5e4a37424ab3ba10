/- A slice of uint64 that came in, opened. -/
import Derived.Test.YtbcbkieebelleaaBsSpec
namespace Go.Proofs.Ytbcbkieebelleaa
set_option linter.unusedVariables false
open Go.RowKit

/-- a slice of uint64 that came in -/
def AnyU64s (w : World) (v : Value) : Prop := ∃ xs : List Nat, Sl w v (u64s xs) ∧ ∀ x ∈ xs, x < 18446744073709551616
theorem AnyU64s.below {w w' : World} {v : Value} {B : Nat} (h : AnyU64s w v) (hB : B = w.heap.size) (hb : Below B w w') : AnyU64s w' v := by
  obtain ⟨xs, h1, h2⟩ := h
  exact ⟨xs, h1.below hB hb, h2⟩

set_option maxRecDepth 100000 in
theorem open_u64s {H : Type} {enc : TypeId × Value → H} {W : World} {v : Value} {d : DataW H} {p : List MemPlace} {r : Reach} {b0 : Nat}
    (hv : Value.okWide Try.prog W r b0 37 v) (h : DataW.Trod enc Try.prog W 0 (fun _ => true) true 37 v d p) : AnyU64s W v := by
  obtain ⟨xs, hsl, hwf⟩ := open_isints Try.underlying37 Try.underlying52 (by kernel_rfl) hv h
  have hx : ∃ l : List Nat, xs.map (Value.int .u64) = u64s l ∧ ∀ x ∈ l, x < 18446744073709551616 := by
    clear hsl
    induction xs with
    | nil => exact ⟨[], rfl, by simp⟩
    | cons z zs ih =>
      obtain ⟨l, hl, hl2⟩ := ih (fun n hn => hwf n (List.mem_cons_of_mem _ hn))
      have hz := hwf z (List.mem_cons_self ..)
      have hb : 0 ≤ z ∧ z ≤ 18446744073709551615 := by
        simp [Lit.wf, IntKind.min, IntKind.max, IntKind.signed, IntKind.bits] at hz
        omega
      obtain ⟨Z, rfl⟩ := Int.eq_ofNat_of_zero_le hb.1
      refine ⟨Z :: l, by rw [List.map_cons, hl]; rfl, fun x hx => ?_⟩
      rcases List.mem_cons.1 hx with rfl | h
      · omega
      · exact hl2 x h
  obtain ⟨l, hl, hl2⟩ := hx
  rw [hl] at hsl
  exact ⟨l, hsl, hl2⟩
end Go.Proofs.Ytbcbkieebelleaa
