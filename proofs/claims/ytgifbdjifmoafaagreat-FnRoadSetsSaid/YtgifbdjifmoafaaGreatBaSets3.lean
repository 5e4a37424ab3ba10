/- Walks of spec.BAAnd, BANand and BAOr (printed by gen_ba_sets3.py). -/
import Derived.Test.YtgifbdjifmoafaaGreatBaTwoLaw
namespace Go.Proofs.YtgifbdjifmoafaaGreat
set_option linter.unusedVariables false
open Go.RowKit Bam

theorem sNand_succ (A B : List Nat) (i : Nat) (h : i < A.length) : sNand (A.take (i + 1)) B = if sHas B (A.getD i 0) then sNand (A.take i) B else sNand (A.take i) B ++ [A.getD i 0] := by
  unfold sNand
  rw [List.take_succ_eq_append_getElem h, List.filter_append, show A.getD i 0 = A[i] by rw [List.getD_eq_getElem?_getD, List.getElem?_eq_getElem h]; rfl]
  by_cases hb : sHas B A[i] <;> simp [hb]
theorem sNand_le (A B : List Nat) (i : Nat) : (sNand (A.take i) B).length ≤ i := by
  unfold sNand
  exact Nat.le_trans (List.length_filter_le _ _) (by rw [List.length_take]; omega)
def NandLoop (A B : List Nat) (n : Nat) (w : World) (k : Nat) (so idx : Value) (wr : World) : Prop :=
  ∃ (i : Nat) (p : Option Addr) (m cc : Nat), so = .slice p m cc ∧ idx = .int .i64 (i : Int) ∧ i + k = n ∧ wr.ownsRow w.heap.size 25 1 (.slice p m cc) m (u64s (sNand (A.take i) B)) ∧ Below w.heap.size w wr

end Go.Proofs.YtgifbdjifmoafaaGreat
