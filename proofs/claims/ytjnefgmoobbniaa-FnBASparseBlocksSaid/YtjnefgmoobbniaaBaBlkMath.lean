/- Plain: the words of set bits as one flat list of numbers. -/
import Derived.Test.YtjnefgmoobbniaaBaDoes17
namespace Go.Proofs.Ytjnefgmoobbniaa
set_option linter.unusedVariables false
open Go.RowKit Bam

theorem flatP_append (a b : Ps) : flatP (a ++ b) = flatP a ++ flatP b := by unfold flatP; rw [List.flatMap_append]
theorem flat_new {acc : Ps} {k : Nat} (h : ∀ q, acc.getLast? = some q → q.1 ≠ k / 64) : flatP (wordAdd acc k) = flatP acc ++ [k / 64, 2 ^ (k % 64)] := by
  unfold wordAdd
  rcases List.eq_nil_or_concat acc with e | ⟨l, q, e⟩
  · subst e; rfl
  · obtain ⟨i, w⟩ := q
    have e' : acc = l ++ [(i, w)] := by simpa using e
    subst e'
    have hi : i ≠ k / 64 := h (i, w) (by simp)
    simp only [List.getLast?_concat]
    rw [if_neg hi, flatP_append]
    rfl
theorem flat_old {l : Ps} {k w : Nat} : flatP (wordAdd (l ++ [(k / 64, w)]) k) = flatP l ++ [k / 64, w ||| 2 ^ (k % 64)] := by
  unfold wordAdd
  simp only [List.getLast?_concat, List.dropLast_concat]
  rw [if_pos trivial, flatP_append]
  rfl
theorem flat_last (l : Ps) (i w : Nat) : flatP (l ++ [(i, w)]) = flatP l ++ [i, w] := by rw [flatP_append]; rfl
theorem words_succ (S : List Nat) (i : Nat) (h : i < S.length) : words (S.take (i + 1)) = wordAdd (words (S.take i)) (S.getD i 0) := by
  unfold words
  rw [List.take_succ_eq_append_getElem h, List.foldl_append, show S.getD i 0 = S[i] by rw [List.getD_eq_getElem?_getD, List.getElem?_eq_getElem h]; rfl]
  rfl
end Go.Proofs.Ytjnefgmoobbniaa
