/- What step 17 does, as a step of a run. -/
import Derived.Test.YtjnefgmoobbniaaBaStep17
namespace Go.Proofs.Ytjnefgmoobbniaa
set_option linter.unusedVariables false
open Go.RowKit Bam

theorem does_blocks (σ : List Arr) (t : Stp) (ps : Ps) (h : t.op = 17) (hi : σ[t.on]? = some (.sp ps)) (hp : SOk ps) : Does σ t σ ⟨false, 0, flatP ps⟩ := by
  intro w a s c es hs hσ hl
  rw [h]
  obtain ⟨p, F, he⟩ := ent_of hσ hi
  refine (step17_sp a s c es t.on p F ps _ t.k _ _ w hs hl he hp.ok (Nat.le_trans hp.len (by decide))).mono fun e w' ⟨v, m, cc, h1, h2, h3, h4, h5⟩ => ?_
  exact ⟨s, c, es, v, m, cc, h1, hσ, h2, h3, h4, h5⟩
end Go.Proofs.Ytjnefgmoobbniaa
