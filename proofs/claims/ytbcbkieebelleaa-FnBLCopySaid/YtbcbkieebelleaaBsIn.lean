/- The walk of spec.BSIn. -/
import Derived.Test.YtbcbkieebelleaaBsTwo
import Derived.Deep.RegionHeld3
namespace Go.Proofs.Ytbcbkieebelleaa
set_option linter.unusedVariables false
open Go.RowKit

/-- a second quiet region behind draws -/
theorem quiet_add {P : Program} {f : FuncId} {args : Array Value} {w : World} {a n : Nat} {v : Value}
    (h : Calls P f args (w.drewN (a + n)) fun e w' => e = .returned v ∧ ∃ m, w' = (w.drewN (a + n)).drewN m) :
    Calls P f args (w.drewN (a + n)) fun e w'' => e = .returned v ∧ ∃ m, w'' = w.drewN (a + m) :=
  h.mono fun _ _ ⟨he, m, hm⟩ => ⟨he, n + m, by rw [hm, World.drewN_drewN, Nat.add_assoc]⟩
theorem quiet_add_same {P : Program} {f : FuncId} {args : Array Value} {w : World} {a n : Nat} {v : Value}
    (h : Calls P f args (w.drewN (a + n)) fun e w' => e = .returned v ∧ w' = w.drewN (a + n)) :
    Calls P f args (w.drewN (a + n)) fun e w'' => e = .returned v ∧ ∃ m, w'' = w.drewN (a + m) :=
  h.mono fun _ _ ⟨he, hm⟩ => ⟨he, n, hm⟩

theorem Sl.drewN {w : World} {v : Value} {vs : List Value} (h : Sl w v vs) (n : Nat) : Sl (w.drewN n) v vs := by
  obtain ⟨a, m, cap, rfl, h1, h2, h3, h4⟩ := h
  exact ⟨a, m, cap, rfl, h1, h2, h3, h4⟩

end Go.Proofs.Ytbcbkieebelleaa
