/- Walks of the references BADrop, BASame, BACapacity. -/
import Derived.Test.YtgifbdjifmoafaaGreatBaSearch
namespace Go.Proofs.YtgifbdjifmoafaaGreat
set_option linter.unusedVariables false
open Go.RowKit Bam

def SameRel (A B : List Nat) (w : World) (n k : Nat) (idx : Value) (wr : World) : Prop := ∃ i : Nat, idx = .int .i64 (i : Int) ∧ i + k = n ∧ (∀ j, j < i → A.getD j 0 = B.getD j 0) ∧ ∃ nq, wr = w.drewN nq

theorem same_of {A B : List Nat} (hl : A.length = B.length) (h : ∀ j, j < A.length → A.getD j 0 = B.getD j 0) : A = B := by
  apply List.ext_getElem hl
  intro j h1 h2
  have := h j h1
  simpa [List.getD_eq_getElem?_getD, h1, h2] using this

end Go.Proofs.YtgifbdjifmoafaaGreat
