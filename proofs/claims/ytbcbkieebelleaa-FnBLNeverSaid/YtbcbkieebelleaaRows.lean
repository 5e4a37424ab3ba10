/-
  No cell of these rows narrows 'for every input' (looked for: loops, veiled, ifaces, maps, wideKeys, modest, calm, conditions, laid).
  DERIVED. THE GIVEN ROWS OF THIS SEAT. 8 by the template 'for every input the law returns true; each argument reads behind the call as it read before'; 0 by the template 'total and deterministic' (their statements: YtbcbkieebelleaaTotals.lean).
  GIVEN WITH THE SEED: the statements are not yours to turn. If you find one false, say at which input.
  Laid BY PROGRAM, IN A SANDBOX (cutbox-rows.mjs): the forced cells as the released guide's own fill.sh prints them over the translation b02f5f2de0974714… (all of the seat's roots in one cut). By AI agents, Wed Nov 11 2026. No macro, syntax, notation, axiom, sorry.
-/
import Derived.Test.YtbcbkieebelleaaChecked
import GoSem.Claim
import GoSem.ClaimJoined
import GoSem.ClaimMapViews
import Derived.JoinedTies
import Derived.KernelRfl
namespace Go.Proofs.Ytbcbkieebelleaa
/- THE CELL 'sum', in the pinned program and in every row, IS THE sha256 OF THE DUMP (.gsa) THAT YtbcbkieebelleaaProg.lean LOADS. Nothing in Lean hashes anything: it is a label: what it is worth is what the hold of that sum in a sandbox is worth. -/
noncomputable def Try.pinned : Pinned := { name := "ytbcbkieebelleaa", sum := "b02f5f2de09747141fa2c3cc33d0d3b6f12377fc4daccedb56d7c9cd9e2c6fdf", checked := Try.checked }
namespace Rows
def none {H : Type} : Left H := { results := [], args := [] }

/-- 'laws.FnBSCopy': WHATEVER THE INPUT: true; the input reads as it did. -/
def fnBSCopySpec : ChangeSpec := { name := "fnBSCopy", fn := fun _ => fun
  | [d1, d2] => { results := [.lit (.bool true)], args := [d1, d2] }
  | _ => none }
def fnBSCopyRow : OpenClaim := { program := "ytbcbkieebelleaa", sum := "b02f5f2de09747141fa2c3cc33d0d3b6f12377fc4daccedb56d7c9cd9e2c6fdf", func := "given.example/pub-lumberyard/laws.FnBSCopy", spec := "fnBSCopy", unfollowed := true, recurses := true, apart := false }
def FnBSCopySaid : Prop := fnBSCopyRow.holds Try.pinned (OpenSpec.ofChange fnBSCopySpec)

/-- ITS FALSE NEIGHBOUR: 'it returns false'. Refute it at one input. -/
def fnBSCopyWrong : ChangeSpec := { name := "fnBSCopy", fn := fun _ => fun
  | [d1, d2] => { results := [.lit (.bool false)], args := [d1, d2] }
  | _ => none }
def FnBSCopyWrongFalsely : Prop := fnBSCopyRow.holds Try.pinned (OpenSpec.ofChange fnBSCopyWrong)

/-- 'laws.FnBLNew': WHATEVER THE INPUT: true; the input reads as it did. -/
def fnBLNewSpec : ChangeSpec := { name := "fnBLNew", fn := fun _ => fun
  | [d1, d2] => { results := [.lit (.bool true)], args := [d1, d2] }
  | _ => none }
def fnBLNewRow : OpenClaim := { program := "ytbcbkieebelleaa", sum := "b02f5f2de09747141fa2c3cc33d0d3b6f12377fc4daccedb56d7c9cd9e2c6fdf", func := "given.example/pub-lumberyard/laws.FnBLNew", spec := "fnBLNew", unfollowed := true, recurses := true, apart := false }
def FnBLNewSaid : Prop := fnBLNewRow.holds Try.pinned (OpenSpec.ofChange fnBLNewSpec)

/-- ITS FALSE NEIGHBOUR: 'it returns false'. Refute it at one input. -/
def fnBLNewWrong : ChangeSpec := { name := "fnBLNew", fn := fun _ => fun
  | [d1, d2] => { results := [.lit (.bool false)], args := [d1, d2] }
  | _ => none }
def FnBLNewWrongFalsely : Prop := fnBLNewRow.holds Try.pinned (OpenSpec.ofChange fnBLNewWrong)

/-- 'laws.FnBLMerge': WHATEVER THE INPUT: true; the input reads as it did. -/
def fnBLMergeSpec : ChangeSpec := { name := "fnBLMerge", fn := fun _ => fun
  | [d1, d2, d3, d4] => { results := [.lit (.bool true)], args := [d1, d2, d3, d4] }
  | _ => none }
def fnBLMergeRow : OpenClaim := { program := "ytbcbkieebelleaa", sum := "b02f5f2de09747141fa2c3cc33d0d3b6f12377fc4daccedb56d7c9cd9e2c6fdf", func := "given.example/pub-lumberyard/laws.FnBLMerge", spec := "fnBLMerge", apart := false }
def FnBLMergeSaid : Prop := fnBLMergeRow.holds Try.pinned (OpenSpec.ofChange fnBLMergeSpec)

/-- ITS FALSE NEIGHBOUR: 'it returns false'. Refute it at one input. -/
def fnBLMergeWrong : ChangeSpec := { name := "fnBLMerge", fn := fun _ => fun
  | [d1, d2, d3, d4] => { results := [.lit (.bool false)], args := [d1, d2, d3, d4] }
  | _ => none }
def FnBLMergeWrongFalsely : Prop := fnBLMergeRow.holds Try.pinned (OpenSpec.ofChange fnBLMergeWrong)

/-- 'laws.FnBLLocations': WHATEVER THE INPUT: true; the input reads as it did. -/
def fnBLLocationsSpec : ChangeSpec := { name := "fnBLLocations", fn := fun _ => fun
  | [d1, d2] => { results := [.lit (.bool true)], args := [d1, d2] }
  | _ => none }
def fnBLLocationsRow : OpenClaim := { program := "ytbcbkieebelleaa", sum := "b02f5f2de09747141fa2c3cc33d0d3b6f12377fc4daccedb56d7c9cd9e2c6fdf", func := "given.example/pub-lumberyard/laws.FnBLLocations", spec := "fnBLLocations", named := ["encoding/binary.LittleEndian"], apart := false }
def FnBLLocationsSaid : Prop := fnBLLocationsRow.holds Try.pinned (OpenSpec.ofChange fnBLLocationsSpec)

/-- ITS FALSE NEIGHBOUR: 'it returns false'. Refute it at one input. -/
def fnBLLocationsWrong : ChangeSpec := { name := "fnBLLocations", fn := fun _ => fun
  | [d1, d2] => { results := [.lit (.bool false)], args := [d1, d2] }
  | _ => none }
def FnBLLocationsWrongFalsely : Prop := fnBLLocationsRow.holds Try.pinned (OpenSpec.ofChange fnBLLocationsWrong)

/-- 'laws.FnBLTest': WHATEVER THE INPUT: true; the input reads as it did. -/
def fnBLTestSpec : ChangeSpec := { name := "fnBLTest", fn := fun _ => fun
  | [d1, d2, d3, d4] => { results := [.lit (.bool true)], args := [d1, d2, d3, d4] }
  | _ => none }
def fnBLTestRow : OpenClaim := { program := "ytbcbkieebelleaa", sum := "b02f5f2de09747141fa2c3cc33d0d3b6f12377fc4daccedb56d7c9cd9e2c6fdf", func := "given.example/pub-lumberyard/laws.FnBLTest", spec := "fnBLTest", named := ["encoding/binary.LittleEndian"], apart := false }
def FnBLTestSaid : Prop := fnBLTestRow.holds Try.pinned (OpenSpec.ofChange fnBLTestSpec)

/-- ITS FALSE NEIGHBOUR: 'it returns false'. Refute it at one input. -/
def fnBLTestWrong : ChangeSpec := { name := "fnBLTest", fn := fun _ => fun
  | [d1, d2, d3, d4] => { results := [.lit (.bool false)], args := [d1, d2, d3, d4] }
  | _ => none }
def FnBLTestWrongFalsely : Prop := fnBLTestRow.holds Try.pinned (OpenSpec.ofChange fnBLTestWrong)

/-- 'laws.FnBLTestOrAdd': WHATEVER THE INPUT: true; the input reads as it did. -/
def fnBLTestOrAddSpec : ChangeSpec := { name := "fnBLTestOrAdd", fn := fun _ => fun
  | [d1, d2, d3, d4] => { results := [.lit (.bool true)], args := [d1, d2, d3, d4] }
  | _ => none }
def fnBLTestOrAddRow : OpenClaim := { program := "ytbcbkieebelleaa", sum := "b02f5f2de09747141fa2c3cc33d0d3b6f12377fc4daccedb56d7c9cd9e2c6fdf", func := "given.example/pub-lumberyard/laws.FnBLTestOrAdd", spec := "fnBLTestOrAdd", named := ["encoding/binary.LittleEndian"], apart := false }
def FnBLTestOrAddSaid : Prop := fnBLTestOrAddRow.holds Try.pinned (OpenSpec.ofChange fnBLTestOrAddSpec)

/-- ITS FALSE NEIGHBOUR: 'it returns false'. Refute it at one input. -/
def fnBLTestOrAddWrong : ChangeSpec := { name := "fnBLTestOrAdd", fn := fun _ => fun
  | [d1, d2, d3, d4] => { results := [.lit (.bool false)], args := [d1, d2, d3, d4] }
  | _ => none }
def FnBLTestOrAddWrongFalsely : Prop := fnBLTestOrAddRow.holds Try.pinned (OpenSpec.ofChange fnBLTestOrAddWrong)

/-- 'laws.FnBLNever': WHATEVER THE INPUT: true; the input reads as it did. -/
def fnBLNeverSpec : ChangeSpec := { name := "fnBLNever", fn := fun _ => fun
  | [d1, d2, d3] => { results := [.lit (.bool true)], args := [d1, d2, d3] }
  | _ => none }
def fnBLNeverRow : OpenClaim := { program := "ytbcbkieebelleaa", sum := "b02f5f2de09747141fa2c3cc33d0d3b6f12377fc4daccedb56d7c9cd9e2c6fdf", func := "given.example/pub-lumberyard/laws.FnBLNever", spec := "fnBLNever", unfollowed := true, recurses := true, named := ["encoding/binary.LittleEndian"], apart := false }
def FnBLNeverSaid : Prop := fnBLNeverRow.holds Try.pinned (OpenSpec.ofChange fnBLNeverSpec)

/-- ITS FALSE NEIGHBOUR: 'it returns false'. Refute it at one input. -/
def fnBLNeverWrong : ChangeSpec := { name := "fnBLNever", fn := fun _ => fun
  | [d1, d2, d3] => { results := [.lit (.bool false)], args := [d1, d2, d3] }
  | _ => none }
def FnBLNeverWrongFalsely : Prop := fnBLNeverRow.holds Try.pinned (OpenSpec.ofChange fnBLNeverWrong)

/-- 'laws.FnBLCopy': WHATEVER THE INPUT: true; the input reads as it did. -/
def fnBLCopySpec : ChangeSpec := { name := "fnBLCopy", fn := fun _ => fun
  | [d1, d2, d3, d4] => { results := [.lit (.bool true)], args := [d1, d2, d3, d4] }
  | _ => none }
def fnBLCopyRow : OpenClaim := { program := "ytbcbkieebelleaa", sum := "b02f5f2de09747141fa2c3cc33d0d3b6f12377fc4daccedb56d7c9cd9e2c6fdf", func := "given.example/pub-lumberyard/laws.FnBLCopy", spec := "fnBLCopy", unfollowed := true, recurses := true, named := ["encoding/binary.LittleEndian"], apart := false }
def FnBLCopySaid : Prop := fnBLCopyRow.holds Try.pinned (OpenSpec.ofChange fnBLCopySpec)

/-- ITS FALSE NEIGHBOUR: 'it returns false'. Refute it at one input. -/
def fnBLCopyWrong : ChangeSpec := { name := "fnBLCopy", fn := fun _ => fun
  | [d1, d2, d3, d4] => { results := [.lit (.bool false)], args := [d1, d2, d3, d4] }
  | _ => none }
def FnBLCopyWrongFalsely : Prop := fnBLCopyRow.holds Try.pinned (OpenSpec.ofChange fnBLCopyWrong)

/- THE SECOND FORM. 'bulk': how many values and letters a reading holds, each counted each time it is reached (what is shared counts as often as it is met; a slice's spare places count too). A statement '..UptoSaid' is the law's where the arguments, and the package variables that the reading takes, are together of bulk at most 1048576: NARROWER than '..Said'. Prove '..Said' where nothing that the law and all that it calls make is longer than what came in: it says more and counts as full. Else prove '..UptoSaid'. A law counts once. -/
mutual
def uptoBulk {H : Type} : DataW H → Nat
  | .lit (.string bytes) => bytes.length + 1
  | .lit _ => 1
  | .nil => 1
  | .ptr d => uptoBulk d + 1
  | .slice elems spare => uptoBulkAll elems + uptoBulkAll spare + 1
  | .agg parts => uptoBulkAll parts + 1
  | .iface _ d => uptoBulk d + 1
  | .map entries => uptoBulkEntries entries + 1
  | .held _ => 1
def uptoBulkAll {H : Type} : List (DataW H) → Nat
  | [] => 0
  | d :: r => uptoBulk d + uptoBulkAll r
def uptoBulkEntries {H : Type} : List (Lit × DataW H) → Nat
  | [] => 0
  | x :: r => uptoBulkEntry x + uptoBulkEntries r
def uptoBulkEntry {H : Type} : Lit × DataW H → Nat
  | (.string bytes, d) => bytes.length + uptoBulk d + 1
  | (_, d) => uptoBulk d + 1
 end
def uptoSmall : (H : Type) → List (DataW H) → Bool := fun _ ds => decide (uptoBulkAll ds ≤ 1048576)
def OpenSpec.upto (s : _root_.Go.ChangeSpec) : _root_.Go.OpenSpec := { _root_.Go.OpenSpec.ofChange s with cond := some uptoSmall }

/-- 'laws.FnBSCopy', WHERE WHAT IT READS IS OF BULK AT MOST 1048576: true; the input reads as it did. -/
def fnBSCopyUptoRow : OpenClaim := { program := "ytbcbkieebelleaa", sum := "b02f5f2de09747141fa2c3cc33d0d3b6f12377fc4daccedb56d7c9cd9e2c6fdf", func := "given.example/pub-lumberyard/laws.FnBSCopy", spec := "fnBSCopy", unfollowed := true, recurses := true, apart := false, narrowed := true }
def FnBSCopyUptoSaid : Prop := fnBSCopyUptoRow.holds Try.pinned (OpenSpec.upto fnBSCopySpec)

/-- 'laws.FnBLNew', WHERE WHAT IT READS IS OF BULK AT MOST 1048576: true; the input reads as it did. -/
def fnBLNewUptoRow : OpenClaim := { program := "ytbcbkieebelleaa", sum := "b02f5f2de09747141fa2c3cc33d0d3b6f12377fc4daccedb56d7c9cd9e2c6fdf", func := "given.example/pub-lumberyard/laws.FnBLNew", spec := "fnBLNew", unfollowed := true, recurses := true, apart := false, narrowed := true }
def FnBLNewUptoSaid : Prop := fnBLNewUptoRow.holds Try.pinned (OpenSpec.upto fnBLNewSpec)

/-- 'laws.FnBLMerge', WHERE WHAT IT READS IS OF BULK AT MOST 1048576: true; the input reads as it did. -/
def fnBLMergeUptoRow : OpenClaim := { program := "ytbcbkieebelleaa", sum := "b02f5f2de09747141fa2c3cc33d0d3b6f12377fc4daccedb56d7c9cd9e2c6fdf", func := "given.example/pub-lumberyard/laws.FnBLMerge", spec := "fnBLMerge", apart := false, narrowed := true }
def FnBLMergeUptoSaid : Prop := fnBLMergeUptoRow.holds Try.pinned (OpenSpec.upto fnBLMergeSpec)

/-- 'laws.FnBLLocations', WHERE WHAT IT READS IS OF BULK AT MOST 1048576: true; the input reads as it did. -/
def fnBLLocationsUptoRow : OpenClaim := { program := "ytbcbkieebelleaa", sum := "b02f5f2de09747141fa2c3cc33d0d3b6f12377fc4daccedb56d7c9cd9e2c6fdf", func := "given.example/pub-lumberyard/laws.FnBLLocations", spec := "fnBLLocations", named := ["encoding/binary.LittleEndian"], apart := false, narrowed := true }
def FnBLLocationsUptoSaid : Prop := fnBLLocationsUptoRow.holds Try.pinned (OpenSpec.upto fnBLLocationsSpec)

/-- 'laws.FnBLTest', WHERE WHAT IT READS IS OF BULK AT MOST 1048576: true; the input reads as it did. -/
def fnBLTestUptoRow : OpenClaim := { program := "ytbcbkieebelleaa", sum := "b02f5f2de09747141fa2c3cc33d0d3b6f12377fc4daccedb56d7c9cd9e2c6fdf", func := "given.example/pub-lumberyard/laws.FnBLTest", spec := "fnBLTest", named := ["encoding/binary.LittleEndian"], apart := false, narrowed := true }
def FnBLTestUptoSaid : Prop := fnBLTestUptoRow.holds Try.pinned (OpenSpec.upto fnBLTestSpec)

/-- 'laws.FnBLTestOrAdd', WHERE WHAT IT READS IS OF BULK AT MOST 1048576: true; the input reads as it did. -/
def fnBLTestOrAddUptoRow : OpenClaim := { program := "ytbcbkieebelleaa", sum := "b02f5f2de09747141fa2c3cc33d0d3b6f12377fc4daccedb56d7c9cd9e2c6fdf", func := "given.example/pub-lumberyard/laws.FnBLTestOrAdd", spec := "fnBLTestOrAdd", named := ["encoding/binary.LittleEndian"], apart := false, narrowed := true }
def FnBLTestOrAddUptoSaid : Prop := fnBLTestOrAddUptoRow.holds Try.pinned (OpenSpec.upto fnBLTestOrAddSpec)

/-- 'laws.FnBLNever', WHERE WHAT IT READS IS OF BULK AT MOST 1048576: true; the input reads as it did. -/
def fnBLNeverUptoRow : OpenClaim := { program := "ytbcbkieebelleaa", sum := "b02f5f2de09747141fa2c3cc33d0d3b6f12377fc4daccedb56d7c9cd9e2c6fdf", func := "given.example/pub-lumberyard/laws.FnBLNever", spec := "fnBLNever", unfollowed := true, recurses := true, named := ["encoding/binary.LittleEndian"], apart := false, narrowed := true }
def FnBLNeverUptoSaid : Prop := fnBLNeverUptoRow.holds Try.pinned (OpenSpec.upto fnBLNeverSpec)

/-- 'laws.FnBLCopy', WHERE WHAT IT READS IS OF BULK AT MOST 1048576: true; the input reads as it did. -/
def fnBLCopyUptoRow : OpenClaim := { program := "ytbcbkieebelleaa", sum := "b02f5f2de09747141fa2c3cc33d0d3b6f12377fc4daccedb56d7c9cd9e2c6fdf", func := "given.example/pub-lumberyard/laws.FnBLCopy", spec := "fnBLCopy", unfollowed := true, recurses := true, named := ["encoding/binary.LittleEndian"], apart := false, narrowed := true }
def FnBLCopyUptoSaid : Prop := fnBLCopyUptoRow.holds Try.pinned (OpenSpec.upto fnBLCopySpec)

end Rows
end Go.Proofs.Ytbcbkieebelleaa
