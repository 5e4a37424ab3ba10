/- Small facts on memory that several walks use: a block of one cell, and what stores elsewhere leave as it was. No program in sight. -/
import Derived.Below
import Derived.OneCell
import Derived.Lib.Hide
import Derived.WalkSmall
namespace Go.Proofs.Ytmhackiiiehlmaa
set_option linter.unusedVariables false
open Go.RowKit

theorem ret_int {k : IntKind} {a b : Int} (h : a = b) : Ending.returned (.int k a) = .returned (.int k b) := by rw [h]

theorem ret_bool {a b : Bool} (h : a = b) : Ending.returned (.bool a) = .returned (.bool b) := by rw [h]

/-- block b is one cell of type t that holds v and may be written -/
def One (w : World) (b : Nat) (t : TypeId) (v : Value) : Prop := w.heap[b]? = some (.cells #[v] t (0, 0))

theorem One.cell {w : World} {b : Nat} {t : TypeId} {v : Value} (h : One w b t v) : w.cell? ⟨b, 0, none⟩ = some v := cell_of_one h
theorem One.free {w : World} {b : Nat} {t : TypeId} {v : Value} (h : One w b t v) : w.frozen? ⟨b, 0, none⟩ = false := free_of_one h
theorem One.cast {w : World} {b : Nat} {t : TypeId} {v v' : Value} (h : One w b t v) (e : v = v') : One w b t v' := e ▸ h
theorem One.lt {w : World} {b : Nat} {t : TypeId} {v : Value} (h : One w b t v) : b < w.heap.size := lt_of_block h
theorem One.set {w : World} {b : Nat} {t : TypeId} {v : Value} (h : One w b t v) (u : Value) : One (w.setCell ⟨b, 0, none⟩ u) b t u := one_setCell h
theorem One.other {w : World} {b : Nat} {t : TypeId} {v : Value} (h : One w b t v) {a : Addr} (hne : b ≠ a.block) (u : Value) : One (w.setCell a u) b t v :=
  (Below.heap_setCell w a u b hne).trans h
theorem One.alloc {w : World} {b : Nat} {t : TypeId} {v : Value} (h : One w b t v) (o : Obj) : One (w.alloc o) b t v :=
  (Below.heap_alloc w o b h.lt).trans h
theorem One.new (w : World) (t : TypeId) (v : Value) : One (w.alloc (.cells #[v] t)) w.heap.size t v := heap_alloc_new w _
theorem One.below {w w' : World} {b B : Nat} {t : TypeId} {v : Value} (h : One w b t v) (hb : Below B w w') (hlt : b < B) : One w' b t v :=
  (hb.block b hlt).trans h


/-- block b holds the cells cs of type t and may be written -/
def Blk (w : World) (b : Nat) (t : TypeId) (cs : Array Value) : Prop := w.heap[b]? = some (.cells cs t (0, 0))

theorem Blk.cell {w : World} {b : Nat} {t : TypeId} {cs : Array Value} (h : Blk w b t cs) (i : Nat) {v : Value} (hi : cs[i]? = some v) : w.cell? ⟨b, i, none⟩ = some v := by
  rw [cell_of_row w b i cs t (0, 0) h]; exact hi
theorem Blk.free {w : World} {b : Nat} {t : TypeId} {cs : Array Value} (h : Blk w b t cs) (i : Nat) : w.frozen? ⟨b, i, none⟩ = false := frozen_of_row w b i cs t h
theorem Blk.lt {w : World} {b : Nat} {t : TypeId} {cs : Array Value} (h : Blk w b t cs) : b < w.heap.size := lt_of_block h
theorem Blk.set {w : World} {b : Nat} {t : TypeId} {cs : Array Value} (h : Blk w b t cs) (i : Nat) (u : Value) : Blk (w.setCell ⟨b, i, none⟩ u) b t (cs.setIfInBounds i u) := heap_setCell_same w b i cs t u h
theorem Blk.other {w : World} {b : Nat} {t : TypeId} {cs : Array Value} (h : Blk w b t cs) {a : Addr} (hne : b ≠ a.block) (u : Value) : Blk (w.setCell a u) b t cs :=
  (Below.heap_setCell w a u b hne).trans h
theorem Blk.alloc {w : World} {b : Nat} {t : TypeId} {cs : Array Value} (h : Blk w b t cs) (o : Obj) : Blk (w.alloc o) b t cs := (Below.heap_alloc w o b h.lt).trans h
theorem Blk.new (w : World) (t : TypeId) (cs : Array Value) : Blk (w.alloc (.cells cs t)) w.heap.size t cs := heap_alloc_new w _
theorem Blk.below {w w' : World} {b B : Nat} {t : TypeId} {cs : Array Value} (h : Blk w b t cs) (hb : Below B w w') (hlt : b < B) : Blk w' b t cs := (hb.block b hlt).trans h
theorem Blk.grown {w w' : World} {b : Nat} {t : TypeId} {cs : Array Value} {row : Option Nat} (h : Blk w b t cs) (hg : w.grownBy w' row) (hne : row ≠ some b) : Blk w' b t cs :=
  (hg.block b h.lt (fun e => hne e.symm)).trans h
theorem Blk.drew {w : World} {b : Nat} {t : TypeId} {cs : Array Value} (h : Blk w b t cs) : Blk w.drew b t cs := h
theorem Blk.drewN {w : World} {b : Nat} {t : TypeId} {cs : Array Value} (h : Blk w b t cs) (n : Nat) : Blk (w.drewN n) b t cs := h

/-- a contract that ends in Below: the cells and the marks of what was there -/
theorem bcell {W w1 : World} (hb : Below W.heap.size W w1) : (∀ b o, b < W.heap.size → w1.cell? ⟨b, o, none⟩ = W.cell? ⟨b, o, none⟩) ∧ (∀ b o, b < W.heap.size → w1.frozen? ⟨b, o, none⟩ = W.frozen? ⟨b, o, none⟩) :=
  ⟨fun b o h => hb.cell (p := ⟨b, o, none⟩) h, fun b o h => hb.frozen (p := ⟨b, o, none⟩) h⟩

end Go.Proofs.Ytmhackiiiehlmaa
