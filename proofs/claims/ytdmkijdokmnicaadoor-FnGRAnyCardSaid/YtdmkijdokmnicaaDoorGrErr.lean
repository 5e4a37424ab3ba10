/- Three sentinels in their variables, and impl.grError. -/
import Derived.Test.YtdmkijdokmnicaaDoorGrMath
import Derived.Test.YtdmkijdokmnicaaDoorStSpec
import Derived.LaidEql
namespace Go.Proofs.YtdmkijdokmnicaaDoor
set_option linter.unusedVariables false
open Go.RowKit

/-- the three sentinels of package graph lie in their variables, at different places -/
structure Sn (w : World) (a0 a1 a2 : Addr) : Prop where
  c0 : w.cell? ⟨0, 0, none⟩ = some (.iface 67 (.pointer (some a0)))
  c1 : w.cell? ⟨1, 0, none⟩ = some (.iface 67 (.pointer (some a1)))
  c2 : w.cell? ⟨2, 0, none⟩ = some (.iface 67 (.pointer (some a2)))
  n01 : a0 ≠ a1
  n02 : a0 ≠ a2
  n12 : a1 ≠ a2
  b0 : ∃ c t, w.heap[a0.block]? = some (.cells c t (0, 0))
  b1 : ∃ c t, w.heap[a1.block]? = some (.cells c t (0, 0))
  b2 : ∃ c t, w.heap[a2.block]? = some (.cells c t (0, 0))
theorem Sn.below {w w' : World} {a0 a1 a2 : Addr} {B : Nat} (h : Sn w a0 a1 a2) (hB : w.heap.size ≤ B) (hb : Below B w w') : Sn w' a0 a1 a2 := by
  have hk : ∀ {a : Addr}, (∃ c t, w.heap[a.block]? = some (.cells c t (0, 0))) → ∃ c t, w'.heap[a.block]? = some (.cells c t (0, 0)) := fun {a} ⟨c, t, h⟩ => ⟨c, t, (hb.block _ (Nat.lt_of_lt_of_le (Array.getElem?_eq_some_iff.1 h).1 hB)).trans h⟩
  have hc : ∀ {p : Addr} {v : Value}, w.cell? p = some v → w'.cell? p = some v := fun {p v} h => (hb.cell (Nat.lt_of_lt_of_le (World.block_lt_of_cell? w _ h) hB)).trans h
  exact ⟨hc h.c0, hc h.c1, hc h.c2, h.n01, h.n02, h.n12, hk h.b0, hk h.b1, hk h.b2⟩
theorem Sn.low {w w' : World} {a0 a1 a2 : Addr} {Z : Nat} (h : Sn w a0 a1 a2) {W : World} (hW : Sn W a0 a1 a2) (hZ : W.heap.size ≤ Z) (hb : Below Z W w') : Sn w' a0 a1 a2 := hW.below hZ hb
/-- the error of a number -/
def errv (a0 a1 a2 : Addr) (n : Int) : Value := if n = 0 then .nilIface else .iface 67 (.pointer (some (if n = 1 then a0 else if n = 2 then a1 else a2)))

theorem comp_err : (Tryd.prog.info? 67).map (·.comparable) = some true := by kernel_rfl
theorem size_err : (Tryd.prog.info? 84).map (·.size) = some 1 := by kernel_rfl

theorem eq_same (w : World) (a : Addr) : (binOp .eql 47 (.iface 67 (.pointer (some a))) (.iface 67 (.pointer (some a)))).run Tryd.prog w = .ok (.bool true) w := by
  obtain ⟨i, hi, hcmp⟩ := Option.map_eq_some_iff.1 comp_err
  obtain ⟨j, hj, _⟩ := Option.map_eq_some_iff.1 size_err
  exact run_eql_iface_ptr_same w a Tryd.underlying47 Tryd.underlying67 hi hcmp hj
theorem eq_other (w : World) {a b : Addr} (hne : a ≠ b) (ha : ∃ c t, w.heap[a.block]? = some (.cells c t (0, 0))) (hb : ∃ c t, w.heap[b.block]? = some (.cells c t (0, 0))) :
    (binOp .eql 47 (.iface 67 (.pointer (some a))) (.iface 67 (.pointer (some b)))).run Tryd.prog w = .ok (.bool false) w := by
  obtain ⟨i, hi, hcmp⟩ := Option.map_eq_some_iff.1 comp_err
  obtain ⟨j, hj, hjs⟩ := Option.map_eq_some_iff.1 size_err
  obtain ⟨c, t, ha⟩ := ha
  obtain ⟨c2, t2, hb⟩ := hb
  exact run_eql_iface_ptr_other w Tryd.underlying47 Tryd.underlying67 hi hcmp hj (by rw [hjs]; decide) hne ha hb

theorem grerr0 (a0 a1 a2 : Addr) (w : World) (h : Sn w a0 a1 a2) : Calls Tryd.prog 16 #[errv a0 a1 a2 0] w fun e w' => e = .returned (.int .i64 0) ∧ w = w' := by
  show Calls Tryd.prog 16 #[.nilIface] w _
  clear h
  go_enter Tryd.func16, Tryd.ntmps16
  go_wp2_with fail
  go_ret
  exact ⟨rfl, rfl⟩
theorem grerr1 (a0 a1 a2 : Addr) (w : World) (h : Sn w a0 a1 a2) : Calls Tryd.prog 16 #[errv a0 a1 a2 1] w fun e w' => e = .returned (.int .i64 1) ∧ w = w' := by
  show Calls Tryd.prog 16 #[.iface 67 (.pointer (some a0))] w _
  have h0 := h.c0
  have e0 := eq_same w a0
  clear h
  go_enter Tryd.func16, Tryd.ntmps16
  go_wp2_with fail
  go_ret
  exact ⟨rfl, rfl⟩
theorem grerr2 (a0 a1 a2 : Addr) (w : World) (h : Sn w a0 a1 a2) : Calls Tryd.prog 16 #[errv a0 a1 a2 2] w fun e w' => e = .returned (.int .i64 2) ∧ w = w' := by
  show Calls Tryd.prog 16 #[.iface 67 (.pointer (some a1))] w _
  have h0 := h.c0
  have h1 := h.c1
  have e1 := eq_same w a1
  have e2 := eq_other w (Ne.symm h.n01) h.b1 h.b0
  clear h
  go_enter Tryd.func16, Tryd.ntmps16
  go_wp2_with fail
  go_ret
  exact ⟨rfl, rfl⟩
theorem grerr3 (a0 a1 a2 : Addr) (w : World) (h : Sn w a0 a1 a2) : Calls Tryd.prog 16 #[errv a0 a1 a2 3] w fun e w' => e = .returned (.int .i64 3) ∧ w = w' := by
  show Calls Tryd.prog 16 #[.iface 67 (.pointer (some a2))] w _
  have h0 := h.c0
  have h1 := h.c1
  have h2 := h.c2
  have e1 := eq_same w a2
  have e2 := eq_other w (Ne.symm h.n02) h.b2 h.b0
  have e3 := eq_other w (Ne.symm h.n12) h.b2 h.b1
  clear h
  go_enter Tryd.func16, Tryd.ntmps16
  go_wp2_with fail
  go_ret
  exact ⟨rfl, rfl⟩
theorem grerr_any (a0 a1 a2 : Addr) (w : World) (h : Sn w a0 a1 a2) (n : Int) (hn : n = 0 ∨ n = 1 ∨ n = 2 ∨ n = 3) : Calls Tryd.prog 16 #[errv a0 a1 a2 n] w fun e w' => e = .returned (.int .i64 n) ∧ w = w' := by
  rcases hn with rfl | rfl | rfl | rfl
  · exact grerr0 a0 a1 a2 w h
  · exact grerr1 a0 a1 a2 w h
  · exact grerr2 a0 a1 a2 w h
  · exact grerr3 a0 a1 a2 w h
end Go.Proofs.YtdmkijdokmnicaaDoor
