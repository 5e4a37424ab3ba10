/-
  No cell of these rows narrows 'for every input' (looked for: loops, veiled, ifaces, maps, wideKeys, modest, calm, conditions, laid).
  DERIVED. THE GIVEN ROWS OF THIS SEAT. 13 by the template 'for every input the law returns true; each argument reads behind the call as it read before'; 0 by the template 'total and deterministic' (their statements: YtbgmkojiklphmaaTotals.lean).
  GIVEN WITH THE SEED: the statements are not yours to turn. If you find one false, say at which input.
  Laid BY PROGRAM, IN A SANDBOX (cutbox-rows.mjs): the forced cells as the released guide's own fill.sh prints them over the translation 747a2a8fc7f16d95… (all of the seat's roots in one cut). By AI agents, Wed Nov 11 2026. No macro, syntax, notation, axiom, sorry.
-/
import Derived.Test.YtbgmkojiklphmaaChecked
import GoSem.Claim
import GoSem.ClaimJoined
import GoSem.ClaimMapViews
import Derived.JoinedTies
import Derived.KernelRfl
namespace Go.Proofs.Ytbgmkojiklphmaa
/- THE CELL 'sum', in the pinned program and in every row, IS THE sha256 OF THE DUMP (.gsa) THAT YtbgmkojiklphmaaProg.lean LOADS. Nothing in Lean hashes anything: it is a label: what it is worth is what the hold of that sum in a sandbox is worth. -/
noncomputable def Try.pinned : Pinned := { name := "ytbgmkojiklphmaa", sum := "747a2a8fc7f16d9595153bd40642f1a156e8728b3c73faa11e251ed07a671582", checked := Try.checked }
namespace Rows
def none {H : Type} : Left H := { results := [], args := [] }

/-- 'laws.FnBSFlip': WHATEVER THE INPUT: true; the input reads as it did. -/
def fnBSFlipSpec : ChangeSpec := { name := "fnBSFlip", fn := fun _ => fun
  | [d1, d2] => { results := [.lit (.bool true)], args := [d1, d2] }
  | _ => none }
def fnBSFlipRow : OpenClaim := { program := "ytbgmkojiklphmaa", sum := "747a2a8fc7f16d9595153bd40642f1a156e8728b3c73faa11e251ed07a671582", func := "given.example/pub-lumberyard/laws.FnBSFlip", spec := "fnBSFlip", unfollowed := true, recurses := true, apart := false }
def FnBSFlipSaid : Prop := fnBSFlipRow.holds Try.pinned (OpenSpec.ofChange fnBSFlipSpec)

/-- ITS FALSE NEIGHBOUR: 'it returns false'. Refute it at one input. -/
def fnBSFlipWrong : ChangeSpec := { name := "fnBSFlip", fn := fun _ => fun
  | [d1, d2] => { results := [.lit (.bool false)], args := [d1, d2] }
  | _ => none }
def FnBSFlipWrongFalsely : Prop := fnBSFlipRow.holds Try.pinned (OpenSpec.ofChange fnBSFlipWrong)

/-- 'laws.FnBSWords': WHATEVER THE INPUT: true; the input reads as it did. -/
def fnBSWordsSpec : ChangeSpec := { name := "fnBSWords", fn := fun _ => fun
  | [d] => { results := [.lit (.bool true)], args := [d] }
  | _ => none }
def fnBSWordsRow : OpenClaim := { program := "ytbgmkojiklphmaa", sum := "747a2a8fc7f16d9595153bd40642f1a156e8728b3c73faa11e251ed07a671582", func := "given.example/pub-lumberyard/laws.FnBSWords", spec := "fnBSWords", unfollowed := true, recurses := true, apart := false }
def FnBSWordsSaid : Prop := fnBSWordsRow.holds Try.pinned (OpenSpec.ofChange fnBSWordsSpec)

/-- ITS FALSE NEIGHBOUR: 'it returns false'. Refute it at one input. -/
def fnBSWordsWrong : ChangeSpec := { name := "fnBSWords", fn := fun _ => fun
  | [d] => { results := [.lit (.bool false)], args := [d] }
  | _ => none }
def FnBSWordsWrongFalsely : Prop := fnBSWordsRow.holds Try.pinned (OpenSpec.ofChange fnBSWordsWrong)

/-- 'laws.FnBSSet': WHATEVER THE INPUT: true; the input reads as it did. -/
def fnBSSetSpec : ChangeSpec := { name := "fnBSSet", fn := fun _ => fun
  | [d1, d2] => { results := [.lit (.bool true)], args := [d1, d2] }
  | _ => none }
def fnBSSetRow : OpenClaim := { program := "ytbgmkojiklphmaa", sum := "747a2a8fc7f16d9595153bd40642f1a156e8728b3c73faa11e251ed07a671582", func := "given.example/pub-lumberyard/laws.FnBSSet", spec := "fnBSSet", unfollowed := true, recurses := true, apart := false }
def FnBSSetSaid : Prop := fnBSSetRow.holds Try.pinned (OpenSpec.ofChange fnBSSetSpec)

/-- ITS FALSE NEIGHBOUR: 'it returns false'. Refute it at one input. -/
def fnBSSetWrong : ChangeSpec := { name := "fnBSSet", fn := fun _ => fun
  | [d1, d2] => { results := [.lit (.bool false)], args := [d1, d2] }
  | _ => none }
def FnBSSetWrongFalsely : Prop := fnBSSetRow.holds Try.pinned (OpenSpec.ofChange fnBSSetWrong)

/-- 'laws.FnBSCompact': WHATEVER THE INPUT: true; the input reads as it did. -/
def fnBSCompactSpec : ChangeSpec := { name := "fnBSCompact", fn := fun _ => fun
  | [d] => { results := [.lit (.bool true)], args := [d] }
  | _ => none }
def fnBSCompactRow : OpenClaim := { program := "ytbgmkojiklphmaa", sum := "747a2a8fc7f16d9595153bd40642f1a156e8728b3c73faa11e251ed07a671582", func := "given.example/pub-lumberyard/laws.FnBSCompact", spec := "fnBSCompact", unfollowed := true, recurses := true, apart := false }
def FnBSCompactSaid : Prop := fnBSCompactRow.holds Try.pinned (OpenSpec.ofChange fnBSCompactSpec)

/-- ITS FALSE NEIGHBOUR: 'it returns false'. Refute it at one input. -/
def fnBSCompactWrong : ChangeSpec := { name := "fnBSCompact", fn := fun _ => fun
  | [d] => { results := [.lit (.bool false)], args := [d] }
  | _ => none }
def FnBSCompactWrongFalsely : Prop := fnBSCompactRow.holds Try.pinned (OpenSpec.ofChange fnBSCompactWrong)

/-- 'laws.FnBSRank': WHATEVER THE INPUT: true; the input reads as it did. -/
def fnBSRankSpec : ChangeSpec := { name := "fnBSRank", fn := fun _ => fun
  | [d1, d2] => { results := [.lit (.bool true)], args := [d1, d2] }
  | _ => none }
def fnBSRankRow : OpenClaim := { program := "ytbgmkojiklphmaa", sum := "747a2a8fc7f16d9595153bd40642f1a156e8728b3c73faa11e251ed07a671582", func := "given.example/pub-lumberyard/laws.FnBSRank", spec := "fnBSRank", unfollowed := true, recurses := true, apart := false }
def FnBSRankSaid : Prop := fnBSRankRow.holds Try.pinned (OpenSpec.ofChange fnBSRankSpec)

/-- ITS FALSE NEIGHBOUR: 'it returns false'. Refute it at one input. -/
def fnBSRankWrong : ChangeSpec := { name := "fnBSRank", fn := fun _ => fun
  | [d1, d2] => { results := [.lit (.bool false)], args := [d1, d2] }
  | _ => none }
def FnBSRankWrongFalsely : Prop := fnBSRankRow.holds Try.pinned (OpenSpec.ofChange fnBSRankWrong)

/-- 'laws.FnBSCopy': WHATEVER THE INPUT: true; the input reads as it did. -/
def fnBSCopySpec : ChangeSpec := { name := "fnBSCopy", fn := fun _ => fun
  | [d1, d2] => { results := [.lit (.bool true)], args := [d1, d2] }
  | _ => none }
def fnBSCopyRow : OpenClaim := { program := "ytbgmkojiklphmaa", sum := "747a2a8fc7f16d9595153bd40642f1a156e8728b3c73faa11e251ed07a671582", func := "given.example/pub-lumberyard/laws.FnBSCopy", spec := "fnBSCopy", unfollowed := true, recurses := true, apart := false }
def FnBSCopySaid : Prop := fnBSCopyRow.holds Try.pinned (OpenSpec.ofChange fnBSCopySpec)

/-- ITS FALSE NEIGHBOUR: 'it returns false'. Refute it at one input. -/
def fnBSCopyWrong : ChangeSpec := { name := "fnBSCopy", fn := fun _ => fun
  | [d1, d2] => { results := [.lit (.bool false)], args := [d1, d2] }
  | _ => none }
def FnBSCopyWrongFalsely : Prop := fnBSCopyRow.holds Try.pinned (OpenSpec.ofChange fnBSCopyWrong)

/-- 'laws.FnBSDelete': WHATEVER THE INPUT: true; the input reads as it did. -/
def fnBSDeleteSpec : ChangeSpec := { name := "fnBSDelete", fn := fun _ => fun
  | [d1, d2] => { results := [.lit (.bool true)], args := [d1, d2] }
  | _ => none }
def fnBSDeleteRow : OpenClaim := { program := "ytbgmkojiklphmaa", sum := "747a2a8fc7f16d9595153bd40642f1a156e8728b3c73faa11e251ed07a671582", func := "given.example/pub-lumberyard/laws.FnBSDelete", spec := "fnBSDelete", unfollowed := true, recurses := true, apart := false }
def FnBSDeleteSaid : Prop := fnBSDeleteRow.holds Try.pinned (OpenSpec.ofChange fnBSDeleteSpec)

/-- ITS FALSE NEIGHBOUR: 'it returns false'. Refute it at one input. -/
def fnBSDeleteWrong : ChangeSpec := { name := "fnBSDelete", fn := fun _ => fun
  | [d1, d2] => { results := [.lit (.bool false)], args := [d1, d2] }
  | _ => none }
def FnBSDeleteWrongFalsely : Prop := fnBSDeleteRow.holds Try.pinned (OpenSpec.ofChange fnBSDeleteWrong)

/-- 'laws.FnBSSuper': WHATEVER THE INPUT: true; the input reads as it did. -/
def fnBSSuperSpec : ChangeSpec := { name := "fnBSSuper", fn := fun _ => fun
  | [d1, d2, d3] => { results := [.lit (.bool true)], args := [d1, d2, d3] }
  | _ => none }
def fnBSSuperRow : OpenClaim := { program := "ytbgmkojiklphmaa", sum := "747a2a8fc7f16d9595153bd40642f1a156e8728b3c73faa11e251ed07a671582", func := "given.example/pub-lumberyard/laws.FnBSSuper", spec := "fnBSSuper", unfollowed := true, recurses := true, apart := false }
def FnBSSuperSaid : Prop := fnBSSuperRow.holds Try.pinned (OpenSpec.ofChange fnBSSuperSpec)

/-- ITS FALSE NEIGHBOUR: 'it returns false'. Refute it at one input. -/
def fnBSSuperWrong : ChangeSpec := { name := "fnBSSuper", fn := fun _ => fun
  | [d1, d2, d3] => { results := [.lit (.bool false)], args := [d1, d2, d3] }
  | _ => none }
def FnBSSuperWrongFalsely : Prop := fnBSSuperRow.holds Try.pinned (OpenSpec.ofChange fnBSSuperWrong)

/-- 'laws.FnBSWhole': WHATEVER THE INPUT: true; the input reads as it did. -/
def fnBSWholeSpec : ChangeSpec := { name := "fnBSWhole", fn := fun _ => fun
  | [d] => { results := [.lit (.bool true)], args := [d] }
  | _ => none }
def fnBSWholeRow : OpenClaim := { program := "ytbgmkojiklphmaa", sum := "747a2a8fc7f16d9595153bd40642f1a156e8728b3c73faa11e251ed07a671582", func := "given.example/pub-lumberyard/laws.FnBSWhole", spec := "fnBSWhole", unfollowed := true, recurses := true, apart := false }
def FnBSWholeSaid : Prop := fnBSWholeRow.holds Try.pinned (OpenSpec.ofChange fnBSWholeSpec)

/-- ITS FALSE NEIGHBOUR: 'it returns false'. Refute it at one input. -/
def fnBSWholeWrong : ChangeSpec := { name := "fnBSWhole", fn := fun _ => fun
  | [d] => { results := [.lit (.bool false)], args := [d] }
  | _ => none }
def FnBSWholeWrongFalsely : Prop := fnBSWholeRow.holds Try.pinned (OpenSpec.ofChange fnBSWholeWrong)

/-- 'laws.FnBSShiftRight': WHATEVER THE INPUT: true; the input reads as it did. -/
def fnBSShiftRightSpec : ChangeSpec := { name := "fnBSShiftRight", fn := fun _ => fun
  | [d1, d2] => { results := [.lit (.bool true)], args := [d1, d2] }
  | _ => none }
def fnBSShiftRightRow : OpenClaim := { program := "ytbgmkojiklphmaa", sum := "747a2a8fc7f16d9595153bd40642f1a156e8728b3c73faa11e251ed07a671582", func := "given.example/pub-lumberyard/laws.FnBSShiftRight", spec := "fnBSShiftRight", unfollowed := true, recurses := true, apart := false }
def FnBSShiftRightSaid : Prop := fnBSShiftRightRow.holds Try.pinned (OpenSpec.ofChange fnBSShiftRightSpec)

/-- ITS FALSE NEIGHBOUR: 'it returns false'. Refute it at one input. -/
def fnBSShiftRightWrong : ChangeSpec := { name := "fnBSShiftRight", fn := fun _ => fun
  | [d1, d2] => { results := [.lit (.bool false)], args := [d1, d2] }
  | _ => none }
def FnBSShiftRightWrongFalsely : Prop := fnBSShiftRightRow.holds Try.pinned (OpenSpec.ofChange fnBSShiftRightWrong)

/-- 'laws.FnBSBetween': WHATEVER THE INPUT: true; the input reads as it did. -/
def fnBSBetweenSpec : ChangeSpec := { name := "fnBSBetween", fn := fun _ => fun
  | [d1, d2, d3] => { results := [.lit (.bool true)], args := [d1, d2, d3] }
  | _ => none }
def fnBSBetweenRow : OpenClaim := { program := "ytbgmkojiklphmaa", sum := "747a2a8fc7f16d9595153bd40642f1a156e8728b3c73faa11e251ed07a671582", func := "given.example/pub-lumberyard/laws.FnBSBetween", spec := "fnBSBetween", unfollowed := true, recurses := true, apart := false }
def FnBSBetweenSaid : Prop := fnBSBetweenRow.holds Try.pinned (OpenSpec.ofChange fnBSBetweenSpec)

/-- ITS FALSE NEIGHBOUR: 'it returns false'. Refute it at one input. -/
def fnBSBetweenWrong : ChangeSpec := { name := "fnBSBetween", fn := fun _ => fun
  | [d1, d2, d3] => { results := [.lit (.bool false)], args := [d1, d2, d3] }
  | _ => none }
def FnBSBetweenWrongFalsely : Prop := fnBSBetweenRow.holds Try.pinned (OpenSpec.ofChange fnBSBetweenWrong)

/-- 'laws.FnBSIntersection': WHATEVER THE INPUT: true; the input reads as it did. -/
def fnBSIntersectionSpec : ChangeSpec := { name := "fnBSIntersection", fn := fun _ => fun
  | [d1, d2] => { results := [.lit (.bool true)], args := [d1, d2] }
  | _ => none }
def fnBSIntersectionRow : OpenClaim := { program := "ytbgmkojiklphmaa", sum := "747a2a8fc7f16d9595153bd40642f1a156e8728b3c73faa11e251ed07a671582", func := "given.example/pub-lumberyard/laws.FnBSIntersection", spec := "fnBSIntersection", unfollowed := true, recurses := true, apart := false }
def FnBSIntersectionSaid : Prop := fnBSIntersectionRow.holds Try.pinned (OpenSpec.ofChange fnBSIntersectionSpec)

/-- ITS FALSE NEIGHBOUR: 'it returns false'. Refute it at one input. -/
def fnBSIntersectionWrong : ChangeSpec := { name := "fnBSIntersection", fn := fun _ => fun
  | [d1, d2] => { results := [.lit (.bool false)], args := [d1, d2] }
  | _ => none }
def FnBSIntersectionWrongFalsely : Prop := fnBSIntersectionRow.holds Try.pinned (OpenSpec.ofChange fnBSIntersectionWrong)

/-- 'laws.FnBSSymmetric': WHATEVER THE INPUT: true; the input reads as it did. -/
def fnBSSymmetricSpec : ChangeSpec := { name := "fnBSSymmetric", fn := fun _ => fun
  | [d1, d2] => { results := [.lit (.bool true)], args := [d1, d2] }
  | _ => none }
def fnBSSymmetricRow : OpenClaim := { program := "ytbgmkojiklphmaa", sum := "747a2a8fc7f16d9595153bd40642f1a156e8728b3c73faa11e251ed07a671582", func := "given.example/pub-lumberyard/laws.FnBSSymmetric", spec := "fnBSSymmetric", unfollowed := true, recurses := true, apart := false }
def FnBSSymmetricSaid : Prop := fnBSSymmetricRow.holds Try.pinned (OpenSpec.ofChange fnBSSymmetricSpec)

/-- ITS FALSE NEIGHBOUR: 'it returns false'. Refute it at one input. -/
def fnBSSymmetricWrong : ChangeSpec := { name := "fnBSSymmetric", fn := fun _ => fun
  | [d1, d2] => { results := [.lit (.bool false)], args := [d1, d2] }
  | _ => none }
def FnBSSymmetricWrongFalsely : Prop := fnBSSymmetricRow.holds Try.pinned (OpenSpec.ofChange fnBSSymmetricWrong)

/- THE SECOND FORM. 'bulk': how many values and letters a reading holds, each counted each time it is reached (what is shared counts as often as it is met; a slice's spare places count too). A statement '..UptoSaid' is the law's where the arguments, and the package variables that the reading takes, are together of bulk at most 1048576: NARROWER than '..Said'. Prove '..Said' where nothing that the law and all that it calls make is longer than what came in: it says more and counts as full. Else prove '..UptoSaid'. A law counts once. -/
mutual
def uptoBulk {H : Type} : DataW H → Nat
  | .lit (.string bytes) => bytes.length + 1
  | .lit _ => 1
  | .nil => 1
  | .ptr d => uptoBulk d + 1
  | .slice elems spare => uptoBulkAll elems + uptoBulkAll spare + 1
  | .agg parts => uptoBulkAll parts + 1
  | .iface _ d => uptoBulk d + 1
  | .map entries => uptoBulkEntries entries + 1
  | .held _ => 1
def uptoBulkAll {H : Type} : List (DataW H) → Nat
  | [] => 0
  | d :: r => uptoBulk d + uptoBulkAll r
def uptoBulkEntries {H : Type} : List (Lit × DataW H) → Nat
  | [] => 0
  | x :: r => uptoBulkEntry x + uptoBulkEntries r
def uptoBulkEntry {H : Type} : Lit × DataW H → Nat
  | (.string bytes, d) => bytes.length + uptoBulk d + 1
  | (_, d) => uptoBulk d + 1
 end
def uptoSmall : (H : Type) → List (DataW H) → Bool := fun _ ds => decide (uptoBulkAll ds ≤ 1048576)
def OpenSpec.upto (s : _root_.Go.ChangeSpec) : _root_.Go.OpenSpec := { _root_.Go.OpenSpec.ofChange s with cond := some uptoSmall }

/-- 'laws.FnBSFlip', WHERE WHAT IT READS IS OF BULK AT MOST 1048576: true; the input reads as it did. -/
def fnBSFlipUptoRow : OpenClaim := { program := "ytbgmkojiklphmaa", sum := "747a2a8fc7f16d9595153bd40642f1a156e8728b3c73faa11e251ed07a671582", func := "given.example/pub-lumberyard/laws.FnBSFlip", spec := "fnBSFlip", unfollowed := true, recurses := true, apart := false, narrowed := true }
def FnBSFlipUptoSaid : Prop := fnBSFlipUptoRow.holds Try.pinned (OpenSpec.upto fnBSFlipSpec)

/-- 'laws.FnBSWords', WHERE WHAT IT READS IS OF BULK AT MOST 1048576: true; the input reads as it did. -/
def fnBSWordsUptoRow : OpenClaim := { program := "ytbgmkojiklphmaa", sum := "747a2a8fc7f16d9595153bd40642f1a156e8728b3c73faa11e251ed07a671582", func := "given.example/pub-lumberyard/laws.FnBSWords", spec := "fnBSWords", unfollowed := true, recurses := true, apart := false, narrowed := true }
def FnBSWordsUptoSaid : Prop := fnBSWordsUptoRow.holds Try.pinned (OpenSpec.upto fnBSWordsSpec)

/-- 'laws.FnBSSet', WHERE WHAT IT READS IS OF BULK AT MOST 1048576: true; the input reads as it did. -/
def fnBSSetUptoRow : OpenClaim := { program := "ytbgmkojiklphmaa", sum := "747a2a8fc7f16d9595153bd40642f1a156e8728b3c73faa11e251ed07a671582", func := "given.example/pub-lumberyard/laws.FnBSSet", spec := "fnBSSet", unfollowed := true, recurses := true, apart := false, narrowed := true }
def FnBSSetUptoSaid : Prop := fnBSSetUptoRow.holds Try.pinned (OpenSpec.upto fnBSSetSpec)

/-- 'laws.FnBSCompact', WHERE WHAT IT READS IS OF BULK AT MOST 1048576: true; the input reads as it did. -/
def fnBSCompactUptoRow : OpenClaim := { program := "ytbgmkojiklphmaa", sum := "747a2a8fc7f16d9595153bd40642f1a156e8728b3c73faa11e251ed07a671582", func := "given.example/pub-lumberyard/laws.FnBSCompact", spec := "fnBSCompact", unfollowed := true, recurses := true, apart := false, narrowed := true }
def FnBSCompactUptoSaid : Prop := fnBSCompactUptoRow.holds Try.pinned (OpenSpec.upto fnBSCompactSpec)

/-- 'laws.FnBSRank', WHERE WHAT IT READS IS OF BULK AT MOST 1048576: true; the input reads as it did. -/
def fnBSRankUptoRow : OpenClaim := { program := "ytbgmkojiklphmaa", sum := "747a2a8fc7f16d9595153bd40642f1a156e8728b3c73faa11e251ed07a671582", func := "given.example/pub-lumberyard/laws.FnBSRank", spec := "fnBSRank", unfollowed := true, recurses := true, apart := false, narrowed := true }
def FnBSRankUptoSaid : Prop := fnBSRankUptoRow.holds Try.pinned (OpenSpec.upto fnBSRankSpec)

/-- 'laws.FnBSCopy', WHERE WHAT IT READS IS OF BULK AT MOST 1048576: true; the input reads as it did. -/
def fnBSCopyUptoRow : OpenClaim := { program := "ytbgmkojiklphmaa", sum := "747a2a8fc7f16d9595153bd40642f1a156e8728b3c73faa11e251ed07a671582", func := "given.example/pub-lumberyard/laws.FnBSCopy", spec := "fnBSCopy", unfollowed := true, recurses := true, apart := false, narrowed := true }
def FnBSCopyUptoSaid : Prop := fnBSCopyUptoRow.holds Try.pinned (OpenSpec.upto fnBSCopySpec)

/-- 'laws.FnBSDelete', WHERE WHAT IT READS IS OF BULK AT MOST 1048576: true; the input reads as it did. -/
def fnBSDeleteUptoRow : OpenClaim := { program := "ytbgmkojiklphmaa", sum := "747a2a8fc7f16d9595153bd40642f1a156e8728b3c73faa11e251ed07a671582", func := "given.example/pub-lumberyard/laws.FnBSDelete", spec := "fnBSDelete", unfollowed := true, recurses := true, apart := false, narrowed := true }
def FnBSDeleteUptoSaid : Prop := fnBSDeleteUptoRow.holds Try.pinned (OpenSpec.upto fnBSDeleteSpec)

/-- 'laws.FnBSSuper', WHERE WHAT IT READS IS OF BULK AT MOST 1048576: true; the input reads as it did. -/
def fnBSSuperUptoRow : OpenClaim := { program := "ytbgmkojiklphmaa", sum := "747a2a8fc7f16d9595153bd40642f1a156e8728b3c73faa11e251ed07a671582", func := "given.example/pub-lumberyard/laws.FnBSSuper", spec := "fnBSSuper", unfollowed := true, recurses := true, apart := false, narrowed := true }
def FnBSSuperUptoSaid : Prop := fnBSSuperUptoRow.holds Try.pinned (OpenSpec.upto fnBSSuperSpec)

/-- 'laws.FnBSWhole', WHERE WHAT IT READS IS OF BULK AT MOST 1048576: true; the input reads as it did. -/
def fnBSWholeUptoRow : OpenClaim := { program := "ytbgmkojiklphmaa", sum := "747a2a8fc7f16d9595153bd40642f1a156e8728b3c73faa11e251ed07a671582", func := "given.example/pub-lumberyard/laws.FnBSWhole", spec := "fnBSWhole", unfollowed := true, recurses := true, apart := false, narrowed := true }
def FnBSWholeUptoSaid : Prop := fnBSWholeUptoRow.holds Try.pinned (OpenSpec.upto fnBSWholeSpec)

/-- 'laws.FnBSShiftRight', WHERE WHAT IT READS IS OF BULK AT MOST 1048576: true; the input reads as it did. -/
def fnBSShiftRightUptoRow : OpenClaim := { program := "ytbgmkojiklphmaa", sum := "747a2a8fc7f16d9595153bd40642f1a156e8728b3c73faa11e251ed07a671582", func := "given.example/pub-lumberyard/laws.FnBSShiftRight", spec := "fnBSShiftRight", unfollowed := true, recurses := true, apart := false, narrowed := true }
def FnBSShiftRightUptoSaid : Prop := fnBSShiftRightUptoRow.holds Try.pinned (OpenSpec.upto fnBSShiftRightSpec)

/-- 'laws.FnBSBetween', WHERE WHAT IT READS IS OF BULK AT MOST 1048576: true; the input reads as it did. -/
def fnBSBetweenUptoRow : OpenClaim := { program := "ytbgmkojiklphmaa", sum := "747a2a8fc7f16d9595153bd40642f1a156e8728b3c73faa11e251ed07a671582", func := "given.example/pub-lumberyard/laws.FnBSBetween", spec := "fnBSBetween", unfollowed := true, recurses := true, apart := false, narrowed := true }
def FnBSBetweenUptoSaid : Prop := fnBSBetweenUptoRow.holds Try.pinned (OpenSpec.upto fnBSBetweenSpec)

/-- 'laws.FnBSIntersection', WHERE WHAT IT READS IS OF BULK AT MOST 1048576: true; the input reads as it did. -/
def fnBSIntersectionUptoRow : OpenClaim := { program := "ytbgmkojiklphmaa", sum := "747a2a8fc7f16d9595153bd40642f1a156e8728b3c73faa11e251ed07a671582", func := "given.example/pub-lumberyard/laws.FnBSIntersection", spec := "fnBSIntersection", unfollowed := true, recurses := true, apart := false, narrowed := true }
def FnBSIntersectionUptoSaid : Prop := fnBSIntersectionUptoRow.holds Try.pinned (OpenSpec.upto fnBSIntersectionSpec)

/-- 'laws.FnBSSymmetric', WHERE WHAT IT READS IS OF BULK AT MOST 1048576: true; the input reads as it did. -/
def fnBSSymmetricUptoRow : OpenClaim := { program := "ytbgmkojiklphmaa", sum := "747a2a8fc7f16d9595153bd40642f1a156e8728b3c73faa11e251ed07a671582", func := "given.example/pub-lumberyard/laws.FnBSSymmetric", spec := "fnBSSymmetric", unfollowed := true, recurses := true, apart := false, narrowed := true }
def FnBSSymmetricUptoSaid : Prop := fnBSSymmetricUptoRow.holds Try.pinned (OpenSpec.upto fnBSSymmetricSpec)

end Rows
end Go.Proofs.Ytbgmkojiklphmaa
