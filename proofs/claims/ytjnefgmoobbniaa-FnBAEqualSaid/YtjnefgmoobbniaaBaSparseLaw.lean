/- The law FnBASparse: it returns true at every input. -/
import Derived.Test.YtjnefgmoobbniaaBaPlaysW
namespace Go.Proofs.Ytjnefgmoobbniaa
set_option linter.unusedVariables false
open Go.RowKit Bam

theorem nats_of {w : World} {v : Value} (h : IsInts .u64 w v) : ∃ ns : List Nat, Sl w v (u64s ns) ∧ ∀ x ∈ ns, x < 18446744073709551616 := by
  obtain ⟨xs, hs, hb⟩ := h
  have hx : ∀ x ∈ xs, 0 ≤ x ∧ x < 18446744073709551616 := fun x hx => by
    have := hb x hx
    simp [Lit.wf, IntKind.min, IntKind.max, IntKind.signed, IntKind.bits] at this
    omega
  refine ⟨xs.map Int.toNat, ?_, fun x hx2 => ?_⟩
  · have e : u64s (xs.map Int.toNat) = xs.map (Value.int .u64) := by
      unfold u64s
      rw [List.map_map]
      refine List.map_congr_left fun x h => ?_
      show Value.int .u64 ((x.toNat : Nat) : Int) = Value.int .u64 x
      rw [Int.toNat_of_nonneg (hx x h).1]
    rw [e]; exact hs
  · obtain ⟨y, hy, rfl⟩ := List.mem_map.1 hx2
    have := hx y hy
    omega

set_option maxRecDepth 100000 in
theorem law_basparse (v : Value) (w : World) (hv : IsInts .u64 w v) :
    Calls Try.prog 5 #[v] w fun e w' => e = .returned (.bool true) ∧ Below w.heap.size w w' := by
  obtain ⟨ns, hs, hb⟩ := nats_of hv
  have HS := Lib.hid hs
  have HB := Lib.hid hb
  obtain ⟨a, n, cap, rfl, hl, hc, hm, hr⟩ := hs
  clear hv hb hl hr
  have hLm : (n : Int) ≤ 9223372036854775807 := by unfold maxLen at hm; omega
  clear hm hc
  by_cases hz : (2147483647 : Int) < (n : Int)
  · go_enter Try.func5, Try.ntmps5
    go_wp2_with fail
    go_ret
    exact ⟨rfl, Below.refl _ _⟩
  · go_enter Try.func5, Try.ntmps5
    go_wp2_with fail
    refine (plays_any _ ns _ HS.out HB.out).mono ?_
    rintro e w' ⟨rfl, hb⟩
    go_wp2_with fail
    go_ret
    exact ⟨rfl, hb⟩
end Go.Proofs.Ytjnefgmoobbniaa
