/-
  DERIVED. GIVEN WITH THE SEED: THE CARDS: each row of YtepjailijekepaaDoorRows.lean that lists a variable, with what it lists TIED to the program's text (the seventh form; the later family's looks); each row that meets fmt, with fmt's text TOLD by the authors' own Lean function (tested against real Go, not proved from fmt's source: count such statements apart). THE CARD IS WHAT COUNTS. Prove the row's statement (the work); the ties are given (YtepjailijekepaaDoorTie.lean); close each card by the builder's one call (the guide's Derived/Test/ToyasCard.lean, 'card_holds'). Laid BY PROGRAM, IN A SANDBOX (cutbox-door.mjs). By AI agents, Wed Nov 11 2026. No macro, syntax, notation, axiom, sorry.
-/
import Derived.Test.YtepjailijekepaaDoorRows
import GoSem.ClaimSeven
namespace Go.Proofs.YtepjailijekepaaDoor
namespace Rows

/-- THE TIED CARD OF 'laws.FnPQOnce'. -/
def fnPQOnceCard : Claim7 := { stood := { row := fnPQOnceRow, standIns := [], harness := (true, "bb2fb9777e246804833dbf808d8cb512432a3d6c3c0d100104a8559fccef07a1"), looks := true }, kinds := [], alts := [], laidByText := true, laidKinds := [.sentinel, .sentinel, .sentinel], laidTests := true, laidLooks := .later }
def FnPQOnceCardSaid : Prop := Claim7.holds Tryd.pinned (.plain (OpenSpec.ofChange fnPQOnceSpec)) fnPQOnceCard

/-- THE TIED CARD OF 'laws.FnPQRuns'. -/
def fnPQRunsCard : Claim7 := { stood := { row := fnPQRunsRow, standIns := [], harness := (true, "bb2fb9777e246804833dbf808d8cb512432a3d6c3c0d100104a8559fccef07a1"), looks := true }, kinds := [], alts := [], laidByText := true, laidKinds := [.sentinel, .sentinel, .sentinel], laidTests := true, laidLooks := .later }
def FnPQRunsCardSaid : Prop := Claim7.holds Tryd.pinned (.plain (OpenSpec.ofChange fnPQRunsSpec)) fnPQRunsCard

/-- THE SECOND FORM's CARD OF 'laws.FnPQOnce'. -/
def fnPQOnceUptoCard : Claim7 := { stood := { row := fnPQOnceUptoRow, standIns := [], harness := (true, "bb2fb9777e246804833dbf808d8cb512432a3d6c3c0d100104a8559fccef07a1"), looks := true }, kinds := [], alts := [], laidByText := true, laidKinds := [.sentinel, .sentinel, .sentinel], laidTests := true, laidLooks := .later }
def FnPQOnceUptoCardSaid : Prop := Claim7.holds Tryd.pinned (.plain (OpenSpec.upto fnPQOnceSpec)) fnPQOnceUptoCard

/-- THE SECOND FORM's CARD OF 'laws.FnPQRuns'. -/
def fnPQRunsUptoCard : Claim7 := { stood := { row := fnPQRunsUptoRow, standIns := [], harness := (true, "bb2fb9777e246804833dbf808d8cb512432a3d6c3c0d100104a8559fccef07a1"), looks := true }, kinds := [], alts := [], laidByText := true, laidKinds := [.sentinel, .sentinel, .sentinel], laidTests := true, laidLooks := .later }
def FnPQRunsUptoCardSaid : Prop := Claim7.holds Tryd.pinned (.plain (OpenSpec.upto fnPQRunsSpec)) fnPQRunsUptoCard
end Rows
end Go.Proofs.YtepjailijekepaaDoor
