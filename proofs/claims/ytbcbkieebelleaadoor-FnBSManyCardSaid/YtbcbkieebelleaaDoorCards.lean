/-
  DERIVED. GIVEN WITH THE SEED: THE CARDS: each row of YtbcbkieebelleaaDoorRows.lean that lists a variable, with what it lists TIED to the program's text (the seventh form; the later family's looks); each row that meets fmt, with fmt's text TOLD by the authors' own Lean function (tested against real Go, not proved from fmt's source: count such statements apart). THE CARD IS WHAT COUNTS. Prove the row's statement (the work); the ties are given (YtbcbkieebelleaaDoorTie.lean); close each card by the builder's one call (the guide's Derived/Test/ToyasCard.lean, 'card_holds'). Laid BY PROGRAM, IN A SANDBOX (cutbox-door.mjs). By AI agents, Wed Nov 11 2026. No macro, syntax, notation, axiom, sorry.
-/
import Derived.Test.YtbcbkieebelleaaDoorRows
import GoSem.ClaimSeven
namespace Go.Proofs.YtbcbkieebelleaaDoor
namespace Rows

/-- THE TIED CARD OF 'laws.FnBSMany'. -/
def fnBSManyCard : Claim7 := { stood := { row := fnBSManyRow, standIns := [], harness := (true, "da3d9ba68c843a69796ff7567ef73ddbd3b6b850ece450528ba4967266dd6421"), looks := false }, kinds := [], alts := [], laidByText := true, laidKinds := [.data], laidTests := true, laidLooks := .later }
def FnBSManyCardSaid : Prop := Claim7.holds Tryd.pinned (.plain (OpenSpec.ofChange fnBSManySpec)) fnBSManyCard

/-- THE TIED CARD OF 'laws.FnBSNext'. -/
def fnBSNextCard : Claim7 := { stood := { row := fnBSNextRow, standIns := [], harness := (true, "da3d9ba68c843a69796ff7567ef73ddbd3b6b850ece450528ba4967266dd6421"), looks := false }, kinds := [], alts := [], laidByText := true, laidKinds := [.data], laidTests := true, laidLooks := .later }
def FnBSNextCardSaid : Prop := Claim7.holds Tryd.pinned (.plain (OpenSpec.ofChange fnBSNextSpec)) fnBSNextCard

/-- THE SECOND FORM's CARD OF 'laws.FnBSMany'. -/
def fnBSManyUptoCard : Claim7 := { stood := { row := fnBSManyUptoRow, standIns := [], harness := (true, "da3d9ba68c843a69796ff7567ef73ddbd3b6b850ece450528ba4967266dd6421"), looks := false }, kinds := [], alts := [], laidByText := true, laidKinds := [.data], laidTests := true, laidLooks := .later }
def FnBSManyUptoCardSaid : Prop := Claim7.holds Tryd.pinned (.plain (OpenSpec.upto fnBSManySpec)) fnBSManyUptoCard

/-- THE SECOND FORM's CARD OF 'laws.FnBSNext'. -/
def fnBSNextUptoCard : Claim7 := { stood := { row := fnBSNextUptoRow, standIns := [], harness := (true, "da3d9ba68c843a69796ff7567ef73ddbd3b6b850ece450528ba4967266dd6421"), looks := false }, kinds := [], alts := [], laidByText := true, laidKinds := [.data], laidTests := true, laidLooks := .later }
def FnBSNextUptoCardSaid : Prop := Claim7.holds Tryd.pinned (.plain (OpenSpec.upto fnBSNextSpec)) fnBSNextUptoCard
end Rows
end Go.Proofs.YtbcbkieebelleaaDoor
