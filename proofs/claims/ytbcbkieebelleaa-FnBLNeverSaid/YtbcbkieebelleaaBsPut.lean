/- The walk of spec.BSPut where it changes something. -/
import Derived.Test.YtbcbkieebelleaaBsBools
namespace Go.Proofs.Ytbcbkieebelleaa
set_option linter.unusedVariables false
open Go.RowKit

/-- the bits that BSPut goes over -/
def base (how : Nat) (bs : List Bool) (t : Nat) : List Bool := if how = 0 then bs else Bsm.grow bs t

theorem ownsRow_some {w : World} {B : Nat} {e : TypeId} {size : Nat} {p : Option Addr} {m cap n : Nat} {xs : List Value} (h : w.ownsRow B e size (.slice p m cap) n xs) (hn : 0 < n) : ∃ g, p = some ⟨g, 0, none⟩ ∧ B ≤ g := by
  rcases h.2 with ⟨h2, h3⟩ | ⟨g, cap, cur, hv, hg, _⟩
  · omega
  · simp at hv; exact ⟨g, hv.1, hg⟩

theorem putAt0 (b : List Bool) (i : Nat) : putAt 0 b i = false := rfl
theorem putAt1 (b : List Bool) (i : Nat) : putAt 1 b i = true := rfl
theorem putAt2 (b : List Bool) (i : Nat) : putAt 2 b i = !(b.getD i false) := rfl

def PutLoop (how : Nat) (b : List Bool) (f N : Nat) (p : Option Addr) (m cap : Nat) (W : World) (k : Nat) (idx : Value) (wr : World) : Prop :=
  ∃ i : Nat, idx = .int .i64 ((f : Int) + (i : Int)) ∧ i + k = N ∧
    wr.ownsRow W.heap.size 4 1 (.slice p m cap) m (bools (put how b f i)) ∧ Below W.heap.size W wr

end Go.Proofs.Ytbcbkieebelleaa
