/- Walks of BitSet's sortByLength and Intersection. -/
import Derived.Test.YtbcbkieebelleaaBsIn
import Derived.Test.YtbcbkieebelleaaBsWhole
namespace Go.Proofs.Ytbcbkieebelleaa
set_option linter.unusedVariables false
open Go.RowKit

theorem and_lt (X Y : Nat) (hX : X < 18446744073709551616) : X &&& Y < 18446744073709551616 := Nat.lt_of_le_of_lt Nat.and_le_left hX

def MeetLoop (f : Nat → Nat) (r L n cap g' : Nat) (w : World) (k : Nat) (idx : Value) (wr : World) : Prop :=
  ∃ i : Nat, idx = .int .i64 (i : Int) ∧ i + k = n ∧ Bs w.heap.size wr r L (Bsm.layf f (List.replicate n 0) i) cap ∧ wr.cell? ⟨r, 1, none⟩ = some (.slice (some ⟨g', 0, none⟩) n cap) ∧ Below w.heap.size w wr

end Go.Proofs.Ytbcbkieebelleaa
