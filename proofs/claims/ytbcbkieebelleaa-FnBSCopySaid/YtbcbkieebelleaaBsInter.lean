/- Walks of BitSet's InPlaceIntersection and IntersectionCardinality. -/
import Derived.Test.YtbcbkieebelleaaBsPopSl
namespace Go.Proofs.Ytbcbkieebelleaa
set_option linter.unusedVariables false
open Go.RowKit
attribute [local irreducible] Pop.pc Bsm.cnt

def InLoop (f : Nat → Nat) (ws : List Nat) (B p L n g l : Nat) (w : World) (k : Nat) (idx : Value) (wr : World) : Prop :=
  ∃ i : Nat, idx = .int .i64 (i : Int) ∧ l ≤ i ∧ i + k = n ∧ Bs B wr p L (Bsm.layf f ws i) n ∧ wr.cell? ⟨p, 1, none⟩ = some (.slice (some ⟨g, 0, none⟩) n n) ∧ Below B w wr ∧ w.grownBy wr (some g)
def InLoop1 (f : Nat → Nat) (ws : List Nat) (B p L n g l : Nat) (w w0 : World) (k : Nat) (idx : Value) (wr : World) : Prop :=
  ∃ i : Nat, idx = .int .i64 (i : Int) ∧ i + k = l ∧ Bs B wr p L (Bsm.layf f ws i) n ∧ wr.cell? ⟨p, 1, none⟩ = some (.slice (some ⟨g, 0, none⟩) n n) ∧ Below B w wr ∧ w.grownBy wr (some g) ∧ w.heap.size ≤ wr.heap.size

/-- the words of a bitset stand apart from what has blocks from U on -/
def Under (U p : Nat) (w : World) : Prop := p < U ∧ ∀ (a : Addr) (n c : Nat), w.cell? ⟨p, 1, none⟩ = some (.slice (some a) n c) → a.block < U

end Go.Proofs.Ytbcbkieebelleaa
