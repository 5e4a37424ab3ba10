/- Walks of package set: New, Add, Remove, Len, All, Exists, Flatten, and of impl.anys. -/
import Derived.Test.YtdmkijdokmnicaaDoorSetBase
namespace Go.Proofs.YtdmkijdokmnicaaDoor
set_option linter.unusedVariables false
open Go.RowKit

def AnysLoop (l : List Int) (n : Nat) (w : World) (k : Nat) (out idx : Value) (wr : World) : Prop :=
  ∃ (i : Nat) (p : Option Addr) (cap : Nat), out = .slice p i cap ∧ idx = .int .i64 (i : Int) ∧ i + k = n ∧ wr.ownsRow w.heap.size 20 1 (.slice p i cap) i (ifs (l.take i)) ∧ Below w.heap.size w wr

theorem addAll_take (l0 l : List Int) (i : Nat) (h : i < l.length) : setl (Zs.addAll l0 (l.take (i + 1))) = Vm.put (l.getD i 0) (.agg #[]) (setl (Zs.addAll l0 (l.take i))) := by
  rw [take_getD l i h, Zs.add_snoc, setl_put]
theorem remAll_take (l0 l : List Int) (i : Nat) (h : i < l.length) : setl (Zs.remAll l0 (l.take (i + 1))) = Vm.del (l.getD i 0) (setl (Zs.remAll l0 (l.take i))) := by
  rw [take_getD l i h, Zs.rem_snoc, setl_del]

end Go.Proofs.YtdmkijdokmnicaaDoor
