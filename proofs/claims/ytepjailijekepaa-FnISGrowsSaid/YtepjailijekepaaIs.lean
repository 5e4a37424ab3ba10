/- Walks of laws.isSorted and of Int64Slice's Search and Exists. -/
import Derived.Test.YtepjailijekepaaRows
import Derived.Test.YtepjailijekepaaSl
import Derived.Test.YtepjailijekepaaIsMath
import Derived.WalkSpells
import Derived.WalkLawsBesides
import Derived.Deep.LoopGhost
namespace Go.Proofs.Ytepjailijekepaa
set_option linter.unusedVariables false
open Go.RowKit

theorem info_i64 : (Try.prog.info? 2).map (fun i => (i.zero, i.size, i.bytes)) = some (some (.int .i64 0), 1, 8) := by kernel_rfl


theorem len_map (xs : List Int) (k : IntKind) (n : Nat) (h : (xs.map (Value.int k)).length = n) : xs.length = n := by simpa using h
theorem map_at (xs : List Int) (k : IntKind) (i : Nat) (h : i < xs.length) : (xs.map (Value.int k))[i]? = some (.int k (xs.getD i 0)) := by
  simp [List.getElem?_eq_getElem h]

/-- the head of the outer loop -/
def SortOut (xs : List Int) (n : Nat) (w : World) (k : Nat) (idx : Value) (wr : World) : Prop :=
  ∃ i : Nat, idx = .int .i64 (i : Int) ∧ i + k = n ∧ wr.ownsRow w.heap.size 2 1 (.slice (some ⟨w.heap.size, 0, none⟩) n n) n ((Ism.outAt xs i).map (Value.int .i64)) ∧ Below w.heap.size w wr
/-- the head of the inner loop -/
def SortIn (xs : List Int) (n i : Nat) (wo : World) (k : Nat) (idx at_ : Value) (wr : World) : Prop :=
  ∃ j : Nat, idx = .int .i64 (j : Int) ∧ j + k = n ∧ at_ = .int .i64 (Ism.cnt xs i j : Nat) ∧ wr = wo

end Go.Proofs.Ytepjailijekepaa
