/- The law FnBASparse: it returns true at every input. -/
import Derived.Test.YtgifbdjifmoafaaGreatBaPlaysW
namespace Go.Proofs.YtgifbdjifmoafaaGreat
set_option linter.unusedVariables false
open Go.RowKit Bam

theorem nats_of {w : World} {v : Value} (h : IsInts .u64 w v) : ∃ ns : List Nat, Sl w v (u64s ns) ∧ ∀ x ∈ ns, x < 18446744073709551616 := by
  obtain ⟨xs, hs, hb⟩ := h
  have hx : ∀ x ∈ xs, 0 ≤ x ∧ x < 18446744073709551616 := fun x hx => by
    have := hb x hx
    simp [Lit.wf, IntKind.min, IntKind.max, IntKind.signed, IntKind.bits] at this
    omega
  refine ⟨xs.map Int.toNat, ?_, fun x hx2 => ?_⟩
  · have e : u64s (xs.map Int.toNat) = xs.map (Value.int .u64) := by
      unfold u64s
      rw [List.map_map]
      refine List.map_congr_left fun x h => ?_
      show Value.int .u64 ((x.toNat : Nat) : Int) = Value.int .u64 x
      rw [Int.toNat_of_nonneg (hx x h).1]
    rw [e]; exact hs
  · obtain ⟨y, hy, rfl⟩ := List.mem_map.1 hx2
    have := hx y hy
    omega

end Go.Proofs.YtgifbdjifmoafaaGreat
