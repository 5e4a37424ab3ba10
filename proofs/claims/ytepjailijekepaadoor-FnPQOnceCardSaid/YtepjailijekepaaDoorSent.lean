/- Three sentinels (errors.New) in their variables. -/
import Derived.Test.YtepjailijekepaaDoorProg
import Derived.Test.YtepjailijekepaaDoorMem
import Derived.WalkKit
import Derived.KernelRfl
import Derived.LaidEql
namespace Go.Proofs.YtepjailijekepaaDoor
set_option linter.unusedVariables false
open Go.RowKit

/-- the three sentinels lie in their variables, at different places -/
structure Sn (w : World) (a0 a1 a2 : Addr) : Prop where
  c0 : w.cell? ⟨0, 0, none⟩ = some (.iface 76 (.pointer (some a0)))
  c1 : w.cell? ⟨1, 0, none⟩ = some (.iface 76 (.pointer (some a1)))
  c2 : w.cell? ⟨2, 0, none⟩ = some (.iface 76 (.pointer (some a2)))
  n01 : a0 ≠ a1
  n02 : a0 ≠ a2
  n12 : a1 ≠ a2
  b0 : ∃ c t, w.heap[a0.block]? = some (.cells c t (0, 0))
  b1 : ∃ c t, w.heap[a1.block]? = some (.cells c t (0, 0))
  b2 : ∃ c t, w.heap[a2.block]? = some (.cells c t (0, 0))
theorem Sn.below {w w' : World} {a0 a1 a2 : Addr} {B : Nat} (h : Sn w a0 a1 a2) (hB : w.heap.size ≤ B) (hb : Below B w w') : Sn w' a0 a1 a2 := by
  have hk : ∀ {a : Addr}, (∃ c t, w.heap[a.block]? = some (.cells c t (0, 0))) → ∃ c t, w'.heap[a.block]? = some (.cells c t (0, 0)) := fun {a} ⟨c, t, h⟩ => ⟨c, t, (hb.block _ (Nat.lt_of_lt_of_le (Array.getElem?_eq_some_iff.1 h).1 hB)).trans h⟩
  have hc : ∀ {p : Addr} {v : Value}, w.cell? p = some v → w'.cell? p = some v := fun {p v} h => (hb.cell (Nat.lt_of_lt_of_le (World.block_lt_of_cell? w _ h) hB)).trans h
  exact ⟨hc h.c0, hc h.c1, hc h.c2, h.n01, h.n02, h.n12, hk h.b0, hk h.b1, hk h.b2⟩
theorem Sn.low {w w' : World} {a0 a1 a2 : Addr} {Z : Nat} (h : Sn w a0 a1 a2) {W : World} (hW : Sn W a0 a1 a2) (hZ : W.heap.size ≤ Z) (hb : Below Z W w') : Sn w' a0 a1 a2 := hW.below hZ hb
theorem comp_err : (Tryd.prog.info? 76).map (·.comparable) = some true := by kernel_rfl
theorem size_err : (Tryd.prog.info? 94).map (·.size) = some 1 := by kernel_rfl

theorem eq_same (w : World) (a : Addr) : (binOp .eql 58 (.iface 76 (.pointer (some a))) (.iface 76 (.pointer (some a)))).run Tryd.prog w = .ok (.bool true) w := by
  obtain ⟨i, hi, hcmp⟩ := Option.map_eq_some_iff.1 comp_err
  obtain ⟨j, hj, _⟩ := Option.map_eq_some_iff.1 size_err
  exact run_eql_iface_ptr_same w a Tryd.underlying58 Tryd.underlying76 hi hcmp hj
theorem eq_other (w : World) {a b : Addr} (hne : a ≠ b) (ha : ∃ c t, w.heap[a.block]? = some (.cells c t (0, 0))) (hb : ∃ c t, w.heap[b.block]? = some (.cells c t (0, 0))) :
    (binOp .eql 58 (.iface 76 (.pointer (some a))) (.iface 76 (.pointer (some b)))).run Tryd.prog w = .ok (.bool false) w := by
  obtain ⟨i, hi, hcmp⟩ := Option.map_eq_some_iff.1 comp_err
  obtain ⟨j, hj, hjs⟩ := Option.map_eq_some_iff.1 size_err
  obtain ⟨c, t, ha⟩ := ha
  obtain ⟨c2, t2, hb⟩ := hb
  exact run_eql_iface_ptr_other w Tryd.underlying58 Tryd.underlying76 hi hcmp hj (by rw [hjs]; decide) hne ha hb
end Go.Proofs.YtepjailijekepaaDoor
