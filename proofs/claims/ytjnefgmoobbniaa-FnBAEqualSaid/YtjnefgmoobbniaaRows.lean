/-
  No cell of these rows narrows 'for every input' (looked for: loops, veiled, ifaces, maps, wideKeys, modest, calm, conditions, laid).
  DERIVED. THE GIVEN ROWS OF THIS SEAT. 5 by the template 'for every input the law returns true; each argument reads behind the call as it read before'; 0 by the template 'total and deterministic' (their statements: YtjnefgmoobbniaaTotals.lean).
  GIVEN WITH THE SEED: the statements are not yours to turn. If you find one false, say at which input.
  Laid BY PROGRAM, IN A SANDBOX (cutbox-rows.mjs): the forced cells as the released guide's own fill.sh prints them over the translation 3683f9be4a4deaf8… (all of the seat's roots in one cut). By AI agents, Wed Nov 11 2026. No macro, syntax, notation, axiom, sorry.
-/
import Derived.Test.YtjnefgmoobbniaaChecked
import GoSem.Claim
import GoSem.ClaimJoined
import GoSem.ClaimMapViews
import Derived.JoinedTies
import Derived.KernelRfl
namespace Go.Proofs.Ytjnefgmoobbniaa
/- THE CELL 'sum', in the pinned program and in every row, IS THE sha256 OF THE DUMP (.gsa) THAT YtjnefgmoobbniaaProg.lean LOADS. Nothing in Lean hashes anything: it is a label: what it is worth is what the hold of that sum in a sandbox is worth. -/
noncomputable def Try.pinned : Pinned := { name := "ytjnefgmoobbniaa", sum := "3683f9be4a4deaf8bf487d80ac64507da99e367317f35cd0414762ddbc16d525", checked := Try.checked }
namespace Rows
def none {H : Type} : Left H := { results := [], args := [] }

/-- 'laws.FnBAEqual': WHATEVER THE INPUT: true; the input reads as it did. -/
def fnBAEqualSpec : ChangeSpec := { name := "fnBAEqual", fn := fun _ => fun
  | [d1, d2, d3] => { results := [.lit (.bool true)], args := [d1, d2, d3] }
  | _ => none }
def fnBAEqualRow : OpenClaim := { program := "ytjnefgmoobbniaa", sum := "3683f9be4a4deaf8bf487d80ac64507da99e367317f35cd0414762ddbc16d525", func := "given.example/pub-lumberyard/laws.FnBAEqual", spec := "fnBAEqual", unfollowed := true, recurses := true, apart := false }
def FnBAEqualSaid : Prop := fnBAEqualRow.holds Try.pinned (OpenSpec.ofChange fnBAEqualSpec)

/-- ITS FALSE NEIGHBOUR: 'it returns false'. Refute it at one input. -/
def fnBAEqualWrong : ChangeSpec := { name := "fnBAEqual", fn := fun _ => fun
  | [d1, d2, d3] => { results := [.lit (.bool false)], args := [d1, d2, d3] }
  | _ => none }
def FnBAEqualWrongFalsely : Prop := fnBAEqualRow.holds Try.pinned (OpenSpec.ofChange fnBAEqualWrong)

/-- 'laws.FnBAEqualSparse': WHATEVER THE INPUT: true; the input reads as it did. -/
def fnBAEqualSparseSpec : ChangeSpec := { name := "fnBAEqualSparse", fn := fun _ => fun
  | [d1, d2] => { results := [.lit (.bool true)], args := [d1, d2] }
  | _ => none }
def fnBAEqualSparseRow : OpenClaim := { program := "ytjnefgmoobbniaa", sum := "3683f9be4a4deaf8bf487d80ac64507da99e367317f35cd0414762ddbc16d525", func := "given.example/pub-lumberyard/laws.FnBAEqualSparse", spec := "fnBAEqualSparse", unfollowed := true, recurses := true, apart := false }
def FnBAEqualSparseSaid : Prop := fnBAEqualSparseRow.holds Try.pinned (OpenSpec.ofChange fnBAEqualSparseSpec)

/-- ITS FALSE NEIGHBOUR: 'it returns false'. Refute it at one input. -/
def fnBAEqualSparseWrong : ChangeSpec := { name := "fnBAEqualSparse", fn := fun _ => fun
  | [d1, d2] => { results := [.lit (.bool false)], args := [d1, d2] }
  | _ => none }
def FnBAEqualSparseWrongFalsely : Prop := fnBAEqualSparseRow.holds Try.pinned (OpenSpec.ofChange fnBAEqualSparseWrong)

/-- 'laws.FnBASparse': WHATEVER THE INPUT: true; the input reads as it did. -/
def fnBASparseSpec : ChangeSpec := { name := "fnBASparse", fn := fun _ => fun
  | [d] => { results := [.lit (.bool true)], args := [d] }
  | _ => none }
def fnBASparseRow : OpenClaim := { program := "ytjnefgmoobbniaa", sum := "3683f9be4a4deaf8bf487d80ac64507da99e367317f35cd0414762ddbc16d525", func := "given.example/pub-lumberyard/laws.FnBASparse", spec := "fnBASparse", unfollowed := true, recurses := true, apart := false }
def FnBASparseSaid : Prop := fnBASparseRow.holds Try.pinned (OpenSpec.ofChange fnBASparseSpec)

/-- ITS FALSE NEIGHBOUR: 'it returns false'. Refute it at one input. -/
def fnBASparseWrong : ChangeSpec := { name := "fnBASparse", fn := fun _ => fun
  | [d] => { results := [.lit (.bool false)], args := [d] }
  | _ => none }
def FnBASparseWrongFalsely : Prop := fnBASparseRow.holds Try.pinned (OpenSpec.ofChange fnBASparseWrong)

/-- 'laws.FnBASparseBlocks': WHATEVER THE INPUT: true; the input reads as it did. -/
def fnBASparseBlocksSpec : ChangeSpec := { name := "fnBASparseBlocks", fn := fun _ => fun
  | [d] => { results := [.lit (.bool true)], args := [d] }
  | _ => none }
def fnBASparseBlocksRow : OpenClaim := { program := "ytjnefgmoobbniaa", sum := "3683f9be4a4deaf8bf487d80ac64507da99e367317f35cd0414762ddbc16d525", func := "given.example/pub-lumberyard/laws.FnBASparseBlocks", spec := "fnBASparseBlocks", unfollowed := true, recurses := true, apart := false }
def FnBASparseBlocksSaid : Prop := fnBASparseBlocksRow.holds Try.pinned (OpenSpec.ofChange fnBASparseBlocksSpec)

/-- ITS FALSE NEIGHBOUR: 'it returns false'. Refute it at one input. -/
def fnBASparseBlocksWrong : ChangeSpec := { name := "fnBASparseBlocks", fn := fun _ => fun
  | [d] => { results := [.lit (.bool false)], args := [d] }
  | _ => none }
def FnBASparseBlocksWrongFalsely : Prop := fnBASparseBlocksRow.holds Try.pinned (OpenSpec.ofChange fnBASparseBlocksWrong)

/-- 'laws.FnBASparseFrom': WHATEVER THE INPUT: true; the input reads as it did. -/
def fnBASparseFromSpec : ChangeSpec := { name := "fnBASparseFrom", fn := fun _ => fun
  | [d1, d2, d3] => { results := [.lit (.bool true)], args := [d1, d2, d3] }
  | _ => none }
def fnBASparseFromRow : OpenClaim := { program := "ytjnefgmoobbniaa", sum := "3683f9be4a4deaf8bf487d80ac64507da99e367317f35cd0414762ddbc16d525", func := "given.example/pub-lumberyard/laws.FnBASparseFrom", spec := "fnBASparseFrom", unfollowed := true, recurses := true, apart := false }
def FnBASparseFromSaid : Prop := fnBASparseFromRow.holds Try.pinned (OpenSpec.ofChange fnBASparseFromSpec)

/-- ITS FALSE NEIGHBOUR: 'it returns false'. Refute it at one input. -/
def fnBASparseFromWrong : ChangeSpec := { name := "fnBASparseFrom", fn := fun _ => fun
  | [d1, d2, d3] => { results := [.lit (.bool false)], args := [d1, d2, d3] }
  | _ => none }
def FnBASparseFromWrongFalsely : Prop := fnBASparseFromRow.holds Try.pinned (OpenSpec.ofChange fnBASparseFromWrong)

/- THE SECOND FORM. 'bulk': how many values and letters a reading holds, each counted each time it is reached (what is shared counts as often as it is met; a slice's spare places count too). A statement '..UptoSaid' is the law's where the arguments, and the package variables that the reading takes, are together of bulk at most 1048576: NARROWER than '..Said'. Prove '..Said' where nothing that the law and all that it calls make is longer than what came in: it says more and counts as full. Else prove '..UptoSaid'. A law counts once. -/
mutual
def uptoBulk {H : Type} : DataW H → Nat
  | .lit (.string bytes) => bytes.length + 1
  | .lit _ => 1
  | .nil => 1
  | .ptr d => uptoBulk d + 1
  | .slice elems spare => uptoBulkAll elems + uptoBulkAll spare + 1
  | .agg parts => uptoBulkAll parts + 1
  | .iface _ d => uptoBulk d + 1
  | .map entries => uptoBulkEntries entries + 1
  | .held _ => 1
def uptoBulkAll {H : Type} : List (DataW H) → Nat
  | [] => 0
  | d :: r => uptoBulk d + uptoBulkAll r
def uptoBulkEntries {H : Type} : List (Lit × DataW H) → Nat
  | [] => 0
  | x :: r => uptoBulkEntry x + uptoBulkEntries r
def uptoBulkEntry {H : Type} : Lit × DataW H → Nat
  | (.string bytes, d) => bytes.length + uptoBulk d + 1
  | (_, d) => uptoBulk d + 1
 end
def uptoSmall : (H : Type) → List (DataW H) → Bool := fun _ ds => decide (uptoBulkAll ds ≤ 1048576)
def OpenSpec.upto (s : _root_.Go.ChangeSpec) : _root_.Go.OpenSpec := { _root_.Go.OpenSpec.ofChange s with cond := some uptoSmall }

/-- 'laws.FnBAEqual', WHERE WHAT IT READS IS OF BULK AT MOST 1048576: true; the input reads as it did. -/
def fnBAEqualUptoRow : OpenClaim := { program := "ytjnefgmoobbniaa", sum := "3683f9be4a4deaf8bf487d80ac64507da99e367317f35cd0414762ddbc16d525", func := "given.example/pub-lumberyard/laws.FnBAEqual", spec := "fnBAEqual", unfollowed := true, recurses := true, apart := false, narrowed := true }
def FnBAEqualUptoSaid : Prop := fnBAEqualUptoRow.holds Try.pinned (OpenSpec.upto fnBAEqualSpec)

/-- 'laws.FnBAEqualSparse', WHERE WHAT IT READS IS OF BULK AT MOST 1048576: true; the input reads as it did. -/
def fnBAEqualSparseUptoRow : OpenClaim := { program := "ytjnefgmoobbniaa", sum := "3683f9be4a4deaf8bf487d80ac64507da99e367317f35cd0414762ddbc16d525", func := "given.example/pub-lumberyard/laws.FnBAEqualSparse", spec := "fnBAEqualSparse", unfollowed := true, recurses := true, apart := false, narrowed := true }
def FnBAEqualSparseUptoSaid : Prop := fnBAEqualSparseUptoRow.holds Try.pinned (OpenSpec.upto fnBAEqualSparseSpec)

/-- 'laws.FnBASparse', WHERE WHAT IT READS IS OF BULK AT MOST 1048576: true; the input reads as it did. -/
def fnBASparseUptoRow : OpenClaim := { program := "ytjnefgmoobbniaa", sum := "3683f9be4a4deaf8bf487d80ac64507da99e367317f35cd0414762ddbc16d525", func := "given.example/pub-lumberyard/laws.FnBASparse", spec := "fnBASparse", unfollowed := true, recurses := true, apart := false, narrowed := true }
def FnBASparseUptoSaid : Prop := fnBASparseUptoRow.holds Try.pinned (OpenSpec.upto fnBASparseSpec)

/-- 'laws.FnBASparseBlocks', WHERE WHAT IT READS IS OF BULK AT MOST 1048576: true; the input reads as it did. -/
def fnBASparseBlocksUptoRow : OpenClaim := { program := "ytjnefgmoobbniaa", sum := "3683f9be4a4deaf8bf487d80ac64507da99e367317f35cd0414762ddbc16d525", func := "given.example/pub-lumberyard/laws.FnBASparseBlocks", spec := "fnBASparseBlocks", unfollowed := true, recurses := true, apart := false, narrowed := true }
def FnBASparseBlocksUptoSaid : Prop := fnBASparseBlocksUptoRow.holds Try.pinned (OpenSpec.upto fnBASparseBlocksSpec)

/-- 'laws.FnBASparseFrom', WHERE WHAT IT READS IS OF BULK AT MOST 1048576: true; the input reads as it did. -/
def fnBASparseFromUptoRow : OpenClaim := { program := "ytjnefgmoobbniaa", sum := "3683f9be4a4deaf8bf487d80ac64507da99e367317f35cd0414762ddbc16d525", func := "given.example/pub-lumberyard/laws.FnBASparseFrom", spec := "fnBASparseFrom", unfollowed := true, recurses := true, apart := false, narrowed := true }
def FnBASparseFromUptoSaid : Prop := fnBASparseFromUptoRow.holds Try.pinned (OpenSpec.upto fnBASparseFromSpec)

end Rows
end Go.Proofs.Ytjnefgmoobbniaa
