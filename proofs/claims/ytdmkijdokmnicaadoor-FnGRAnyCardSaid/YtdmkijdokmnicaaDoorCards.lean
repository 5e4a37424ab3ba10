/-
  DERIVED. GIVEN WITH THE SEED: THE CARDS: each row of YtdmkijdokmnicaaDoorRows.lean that lists a variable, with what it lists TIED to the program's text (the seventh form; the later family's looks); each row that meets fmt, with fmt's text TOLD by the authors' own Lean function (tested against real Go, not proved from fmt's source: count such statements apart). THE CARD IS WHAT COUNTS. Prove the row's statement (the work); the ties are given (YtdmkijdokmnicaaDoorTie.lean); close each card by the builder's one call (the guide's Derived/Test/ToyasCard.lean, 'card_holds'). Laid BY PROGRAM, IN A SANDBOX (cutbox-door.mjs). By AI agents, Wed Nov 11 2026. No macro, syntax, notation, axiom, sorry.
-/
import Derived.Test.YtdmkijdokmnicaaDoorRows
import GoSem.ClaimSeven
namespace Go.Proofs.YtdmkijdokmnicaaDoor
namespace Rows

/-- THE TIED CARD OF 'laws.FnGRAdj'. -/
def fnGRAdjCard : Claim7 := { stood := { row := fnGRAdjRow, standIns := [], harness := (true, "6859ba3fc4cdceb12c93cf2770d52876ea8e41a1f036a83da059a8df4378156e"), looks := true }, kinds := [], alts := [], laidByText := true, laidKinds := [.sentinel, .sentinel, .sentinel], laidTests := true, laidLooks := .later }
def FnGRAdjCardSaid : Prop := Claim7.holds Tryd.pinned (.plain (OpenSpec.ofChange fnGRAdjSpec)) fnGRAdjCard

/-- THE TIED CARD OF 'laws.FnGRAny'. -/
def fnGRAnyCard : Claim7 := { stood := { row := fnGRAnyRow, standIns := [], harness := (true, "6859ba3fc4cdceb12c93cf2770d52876ea8e41a1f036a83da059a8df4378156e"), looks := true }, kinds := [], alts := [], laidByText := true, laidKinds := [.sentinel, .sentinel, .sentinel], laidTests := true, laidLooks := .later }
def FnGRAnyCardSaid : Prop := Claim7.holds Tryd.pinned (.plain (OpenSpec.ofChange fnGRAnySpec)) fnGRAnyCard

/-- THE SECOND FORM's CARD OF 'laws.FnGRAdj'. -/
def fnGRAdjUptoCard : Claim7 := { stood := { row := fnGRAdjUptoRow, standIns := [], harness := (true, "6859ba3fc4cdceb12c93cf2770d52876ea8e41a1f036a83da059a8df4378156e"), looks := true }, kinds := [], alts := [], laidByText := true, laidKinds := [.sentinel, .sentinel, .sentinel], laidTests := true, laidLooks := .later }
def FnGRAdjUptoCardSaid : Prop := Claim7.holds Tryd.pinned (.plain (OpenSpec.upto fnGRAdjSpec)) fnGRAdjUptoCard

/-- THE SECOND FORM's CARD OF 'laws.FnGRAny'. -/
def fnGRAnyUptoCard : Claim7 := { stood := { row := fnGRAnyUptoRow, standIns := [], harness := (true, "6859ba3fc4cdceb12c93cf2770d52876ea8e41a1f036a83da059a8df4378156e"), looks := true }, kinds := [], alts := [], laidByText := true, laidKinds := [.sentinel, .sentinel, .sentinel], laidTests := true, laidLooks := .later }
def FnGRAnyUptoCardSaid : Prop := Claim7.holds Tryd.pinned (.plain (OpenSpec.upto fnGRAnySpec)) fnGRAnyUptoCard
end Rows
end Go.Proofs.YtdmkijdokmnicaaDoor
