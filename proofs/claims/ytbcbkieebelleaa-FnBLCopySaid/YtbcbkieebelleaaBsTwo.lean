/- The walks of spec.BSOf and spec.BSTwo. -/
import Derived.Test.YtbcbkieebelleaaBsBools
import Derived.Test.YtbcbkieebelleaaBsSet
namespace Go.Proofs.Ytbcbkieebelleaa
set_option linter.unusedVariables false
open Go.RowKit

/-- how 0 one of both, 1 both, 2 the first alone, 3 just one of both -/
def two (how : Nat) (x y : Bool) : Bool := if how = 1 then x && y else if how = 2 then x && !y else if how = 3 then x != y else x || y
def twos (how : Nat) (xs ys : List Bool) : List Bool := (List.range (max xs.length ys.length)).map fun j => two how (xs.getD j false) (ys.getD j false)
theorem twos_len (how : Nat) (xs ys : List Bool) : (twos how xs ys).length = max xs.length ys.length := by simp [twos]
theorem twos_get (how : Nat) (xs ys : List Bool) (hh : how ≤ 3) (j : Nat) : (twos how xs ys).getD j false = two how (xs.getD j false) (ys.getD j false) := by
  unfold twos
  simp only [List.getD_eq_getElem?_getD, List.getElem?_map, List.getElem?_range']
  by_cases h : j < max xs.length ys.length
  · simp [h]
  · rw [List.getElem?_eq_none (l := xs) (by omega), List.getElem?_eq_none (l := ys) (by omega)]
    have h3 : how = 0 ∨ how = 1 ∨ how = 2 ∨ how = 3 := by omega
    rcases h3 with rfl | rfl | rfl | rfl <;> simp [two, h]

def TwoLoop (cs : List Bool) (w : World) (n k : Nat) (out idx : Value) (wr : World) : Prop :=
  ∃ (i : Nat) (p : Option Addr) (m cap : Nat), out = .slice p m cap ∧ idx = .int .i64 (i : Int) ∧ i + k = n ∧
    wr.ownsRow w.heap.size 22 1 (.slice p m cap) (Bsm.posn cs i).length (u64s (Bsm.posn cs i)) ∧ Below w.heap.size w wr

end Go.Proofs.Ytbcbkieebelleaa
