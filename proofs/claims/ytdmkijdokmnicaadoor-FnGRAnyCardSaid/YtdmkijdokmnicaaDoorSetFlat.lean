/- Walks of package set: Flatten and All. -/
import Derived.Test.YtdmkijdokmnicaaDoorSetOps
namespace Go.Proofs.YtdmkijdokmnicaaDoor
set_option linter.unusedVariables false
open Go.RowKit

/-- ks has the members of l, each once -/
def SameSet (ks l : List Int) : Prop := ks.Nodup ∧ ∀ x, x ∈ ks ↔ x ∈ l

theorem Only2.step {s b : Nat} {w w1 w2 : World} {row : Option Nat} (h : Only2 s b w w1) (hg : w1.grownBy w2 row) (hr : ∀ k, row = some k → k = s ∨ k = b ∨ w.heap.size ≤ k) : Only2 s b w w2 :=
  ⟨hg.os.trans h.os, hg.tape.trans h.tape, hg.output.trans h.output, Nat.le_trans h.size hg.size, fun k hk h1 h2 => (hg.block k (Nat.lt_of_lt_of_le hk h.size) (fun e => by rcases hr k e.symm with h | h | h <;> omega)).trans (h.block k hk h1 h2)⟩
theorem VRange.iter {α : Type} [DecidableEq α] {mk : α → Value} {b r : Nat} {l : List (α × Value)} {done : List α} {cnt : Nat} {w : World} (h : VRange w mk b r l done cnt) : ∃ m a c d, w.heap[r]? = some (.mapIter m a c d) := by
  obtain ⟨es, clock, since, seen, c0, _, _, _, _, _, hr, _⟩ := h
  exact ⟨_, _, _, _, hr⟩
theorem VRange.ne_blk {α : Type} [DecidableEq α] {mk : α → Value} {b r : Nat} {l : List (α × Value)} {done : List α} {cnt : Nat} {w : World} (h : VRange w mk b r l done cnt) {s : Nat} {t : TypeId} {cs : Array Value} (hs : Blk w s t cs) : s ≠ r ∧ s ≠ b := by
  obtain ⟨m, a, c, d, hr⟩ := h.iter
  obtain ⟨es, clock, hm, _⟩ := h.owns
  unfold Blk at hs
  refine ⟨fun e => ?_, fun e => ?_⟩
  · subst e; rw [hr] at hs; cases hs
  · subst e; rw [hm] at hs; cases hs
theorem owns_blk {w : World} {B : Nat} {e : TypeId} {size : Nat} {v : Value} {n : Nat} {xs : List Value} (h : w.ownsRow B e size v n xs) {g : Nat} (hg : v.ownBlock = some g) : ∃ cs, Blk w g e cs := by
  rcases h.2 with ⟨rfl, _⟩ | ⟨g', cap, cur, rfl, _, hh, _⟩
  · cases hg
  · simp [Value.ownBlock] at hg
    subst hg
    exact ⟨cur, hh⟩

end Go.Proofs.YtdmkijdokmnicaaDoor
