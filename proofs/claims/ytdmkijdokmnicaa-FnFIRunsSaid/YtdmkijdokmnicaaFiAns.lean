/- The answers' cells. -/
import Derived.Test.YtdmkijdokmnicaaFiRun
namespace Go.Proofs.Ytdmkijdokmnicaa
set_option linter.unusedVariables false
open Go.RowKit

def ansAt (xs : List (Int × Bool)) (i : Nat) : Int × Bool := xs.getD i (0, false)
theorem ans_some {xs : List (Int × Bool)} {i : Nat} (h : i < xs.length) : xs[i]? = some (ansAt xs i) := by simp [ansAt, h]
theorem ansrow_at {xs : List (Int × Bool)} {i : Nat} (h : i < xs.length) : (xs.map ansRow)[i]? = some (ansRow (ansAt xs i)) := by simp [ansAt, h]
/-- the answers' cells -/
theorem Rw.answers {w : World} {v : Value} {xs : List (Int × Bool)} {n : Nat} (h : Rw 2 w v (xs.map ansRow)) (hn : xs.length = n) (h0 : 0 < n) : ∃ b off cap, v = .slice (some ⟨b, off, none⟩) n cap ∧ n ≤ maxLen ∧ ∀ i, i < n → w.cell? ⟨b, off + i * 2, none⟩ = some (.int .u64 (ansAt xs i).1) ∧ w.cell? ⟨b, off + i * 2 + 1, none⟩ = some (.bool (ansAt xs i).2) := by
  obtain ⟨a, m, c, rfl, h1, h2, h3, h4⟩ := h
  rw [List.length_map, hn] at h1
  subst h1
  obtain ⟨b, off, rfl, h5⟩ := h4 h0
  refine ⟨b, off, c, rfl, by omega, fun i hi => ?_⟩
  have hr := ansrow_at (xs := xs) (i := i) (by omega)
  exact ⟨h5 i _ hr 0 _ rfl, h5 i _ hr 1 _ rfl⟩
end Go.Proofs.Ytdmkijdokmnicaa
