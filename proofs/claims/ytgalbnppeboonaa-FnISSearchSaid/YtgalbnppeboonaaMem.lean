/- Small facts on memory that several walks use: a block of one cell, and what stores elsewhere leave as it was. No program in sight. -/
import Derived.Below
import Derived.OneCell
import Derived.Lib.Hide
namespace Go.Proofs.Ytgalbnppeboonaa
set_option linter.unusedVariables false
open Go.RowKit

theorem ret_int {k : IntKind} {a b : Int} (h : a = b) : Ending.returned (.int k a) = .returned (.int k b) := by rw [h]

theorem ret_bool {a b : Bool} (h : a = b) : Ending.returned (.bool a) = .returned (.bool b) := by rw [h]

/-- block b is one cell of type t that holds v and may be written -/
def One (w : World) (b : Nat) (t : TypeId) (v : Value) : Prop := w.heap[b]? = some (.cells #[v] t (0, 0))

theorem One.cell {w : World} {b : Nat} {t : TypeId} {v : Value} (h : One w b t v) : w.cell? ⟨b, 0, none⟩ = some v := cell_of_one h
theorem One.free {w : World} {b : Nat} {t : TypeId} {v : Value} (h : One w b t v) : w.frozen? ⟨b, 0, none⟩ = false := free_of_one h
theorem One.cast {w : World} {b : Nat} {t : TypeId} {v v' : Value} (h : One w b t v) (e : v = v') : One w b t v' := e ▸ h
theorem One.lt {w : World} {b : Nat} {t : TypeId} {v : Value} (h : One w b t v) : b < w.heap.size := lt_of_block h
theorem One.set {w : World} {b : Nat} {t : TypeId} {v : Value} (h : One w b t v) (u : Value) : One (w.setCell ⟨b, 0, none⟩ u) b t u := one_setCell h
theorem One.other {w : World} {b : Nat} {t : TypeId} {v : Value} (h : One w b t v) {a : Addr} (hne : b ≠ a.block) (u : Value) : One (w.setCell a u) b t v :=
  (Below.heap_setCell w a u b hne).trans h
theorem One.alloc {w : World} {b : Nat} {t : TypeId} {v : Value} (h : One w b t v) (o : Obj) : One (w.alloc o) b t v :=
  (Below.heap_alloc w o b h.lt).trans h
theorem One.new (w : World) (t : TypeId) (v : Value) : One (w.alloc (.cells #[v] t)) w.heap.size t v := heap_alloc_new w _
theorem One.below {w w' : World} {b B : Nat} {t : TypeId} {v : Value} (h : One w b t v) (hb : Below B w w') (hlt : b < B) : One w' b t v :=
  (hb.block b hlt).trans h

end Go.Proofs.Ytgalbnppeboonaa
