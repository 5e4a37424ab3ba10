/-
  No cell of these rows narrows 'for every input' (looked for: loops, veiled, ifaces, maps, wideKeys, modest, calm, conditions, laid).
  DERIVED. THE GIVEN ROWS OF THIS SEAT. 5 by the template 'for every input the law returns true; each argument reads behind the call as it read before'; 0 by the template 'total and deterministic' (their statements: YtjnefgmoobbniaaGreatTotals.lean).
  GIVEN WITH THE SEED: the statements are not yours to turn. If you find one false, say at which input.
  Laid BY PROGRAM, IN A SANDBOX (cutbox-rows.mjs): the forced cells as the released guide's own fill.sh prints them over the translation 18e4e78db5626e42… (all of the seat's roots in one cut). By AI agents, Wed Nov 11 2026. No macro, syntax, notation, axiom, sorry.
-/
import Derived.Test.YtjnefgmoobbniaaGreatChecked
import GoSem.Claim
import GoSem.ClaimJoined
import GoSem.ClaimMapViews
import Derived.JoinedTies
import Derived.KernelRfl
namespace Go.Proofs.YtjnefgmoobbniaaGreat
/- THE CELL 'sum', in the pinned program and in every row, IS THE sha256 OF THE DUMP (.gsa) THAT YtjnefgmoobbniaaGreatProg.lean LOADS. Nothing in Lean hashes anything: it is a label: what it is worth is what the hold of that sum in a sandbox is worth. -/
noncomputable def Tryz.pinned : Pinned := { name := "ytjnefgmoobbniaagreat", sum := "18e4e78db5626e42c0a6c01f626741fd8fceedc50805924247b5199b5b2ca1f5", checked := Tryz.checked }
namespace Rows
def none {H : Type} : Left H := { results := [], args := [] }

/-- 'laws.FnBAAnd': WHATEVER THE INPUT: true; the input reads as it did. -/
def fnBAAndSpec : ChangeSpec := { name := "fnBAAnd", fn := fun _ => fun
  | [d1, d2, d3] => { results := [.lit (.bool true)], args := [d1, d2, d3] }
  | _ => none }
def fnBAAndRow : OpenClaim := { program := "ytjnefgmoobbniaagreat", sum := "18e4e78db5626e42c0a6c01f626741fd8fceedc50805924247b5199b5b2ca1f5", func := "given.example/pub-lumberyard/laws.FnBAAnd", spec := "fnBAAnd", unfollowed := true, recurses := true, apart := false }
def FnBAAndSaid : Prop := fnBAAndRow.holds Tryz.pinned (OpenSpec.ofChange fnBAAndSpec)

/-- ITS FALSE NEIGHBOUR: 'it returns false'. Refute it at one input. -/
def fnBAAndWrong : ChangeSpec := { name := "fnBAAnd", fn := fun _ => fun
  | [d1, d2, d3] => { results := [.lit (.bool false)], args := [d1, d2, d3] }
  | _ => none }
def FnBAAndWrongFalsely : Prop := fnBAAndRow.holds Tryz.pinned (OpenSpec.ofChange fnBAAndWrong)

/-- 'laws.FnBAAndSparse': WHATEVER THE INPUT: true; the input reads as it did. -/
def fnBAAndSparseSpec : ChangeSpec := { name := "fnBAAndSparse", fn := fun _ => fun
  | [d1, d2] => { results := [.lit (.bool true)], args := [d1, d2] }
  | _ => none }
def fnBAAndSparseRow : OpenClaim := { program := "ytjnefgmoobbniaagreat", sum := "18e4e78db5626e42c0a6c01f626741fd8fceedc50805924247b5199b5b2ca1f5", func := "given.example/pub-lumberyard/laws.FnBAAndSparse", spec := "fnBAAndSparse", unfollowed := true, recurses := true, apart := false }
def FnBAAndSparseSaid : Prop := fnBAAndSparseRow.holds Tryz.pinned (OpenSpec.ofChange fnBAAndSparseSpec)

/-- ITS FALSE NEIGHBOUR: 'it returns false'. Refute it at one input. -/
def fnBAAndSparseWrong : ChangeSpec := { name := "fnBAAndSparse", fn := fun _ => fun
  | [d1, d2] => { results := [.lit (.bool false)], args := [d1, d2] }
  | _ => none }
def FnBAAndSparseWrongFalsely : Prop := fnBAAndSparseRow.holds Tryz.pinned (OpenSpec.ofChange fnBAAndSparseWrong)

/-- 'laws.FnBAMeet': WHATEVER THE INPUT: true; the input reads as it did. -/
def fnBAMeetSpec : ChangeSpec := { name := "fnBAMeet", fn := fun _ => fun
  | [d1, d2, d3] => { results := [.lit (.bool true)], args := [d1, d2, d3] }
  | _ => none }
def fnBAMeetRow : OpenClaim := { program := "ytjnefgmoobbniaagreat", sum := "18e4e78db5626e42c0a6c01f626741fd8fceedc50805924247b5199b5b2ca1f5", func := "given.example/pub-lumberyard/laws.FnBAMeet", spec := "fnBAMeet", unfollowed := true, recurses := true, apart := false }
def FnBAMeetSaid : Prop := fnBAMeetRow.holds Tryz.pinned (OpenSpec.ofChange fnBAMeetSpec)

/-- ITS FALSE NEIGHBOUR: 'it returns false'. Refute it at one input. -/
def fnBAMeetWrong : ChangeSpec := { name := "fnBAMeet", fn := fun _ => fun
  | [d1, d2, d3] => { results := [.lit (.bool false)], args := [d1, d2, d3] }
  | _ => none }
def FnBAMeetWrongFalsely : Prop := fnBAMeetRow.holds Tryz.pinned (OpenSpec.ofChange fnBAMeetWrong)

/-- 'laws.FnBANandMixed': WHATEVER THE INPUT: true; the input reads as it did. -/
def fnBANandMixedSpec : ChangeSpec := { name := "fnBANandMixed", fn := fun _ => fun
  | [d1, d2, d3, d4] => { results := [.lit (.bool true)], args := [d1, d2, d3, d4] }
  | _ => none }
def fnBANandMixedRow : OpenClaim := { program := "ytjnefgmoobbniaagreat", sum := "18e4e78db5626e42c0a6c01f626741fd8fceedc50805924247b5199b5b2ca1f5", func := "given.example/pub-lumberyard/laws.FnBANandMixed", spec := "fnBANandMixed", unfollowed := true, recurses := true, apart := false }
def FnBANandMixedSaid : Prop := fnBANandMixedRow.holds Tryz.pinned (OpenSpec.ofChange fnBANandMixedSpec)

/-- ITS FALSE NEIGHBOUR: 'it returns false'. Refute it at one input. -/
def fnBANandMixedWrong : ChangeSpec := { name := "fnBANandMixed", fn := fun _ => fun
  | [d1, d2, d3, d4] => { results := [.lit (.bool false)], args := [d1, d2, d3, d4] }
  | _ => none }
def FnBANandMixedWrongFalsely : Prop := fnBANandMixedRow.holds Tryz.pinned (OpenSpec.ofChange fnBANandMixedWrong)

/-- 'laws.FnBAOrMixed': WHATEVER THE INPUT: true; the input reads as it did. -/
def fnBAOrMixedSpec : ChangeSpec := { name := "fnBAOrMixed", fn := fun _ => fun
  | [d1, d2, d3, d4] => { results := [.lit (.bool true)], args := [d1, d2, d3, d4] }
  | _ => none }
def fnBAOrMixedRow : OpenClaim := { program := "ytjnefgmoobbniaagreat", sum := "18e4e78db5626e42c0a6c01f626741fd8fceedc50805924247b5199b5b2ca1f5", func := "given.example/pub-lumberyard/laws.FnBAOrMixed", spec := "fnBAOrMixed", unfollowed := true, recurses := true, apart := false }
def FnBAOrMixedSaid : Prop := fnBAOrMixedRow.holds Tryz.pinned (OpenSpec.ofChange fnBAOrMixedSpec)

/-- ITS FALSE NEIGHBOUR: 'it returns false'. Refute it at one input. -/
def fnBAOrMixedWrong : ChangeSpec := { name := "fnBAOrMixed", fn := fun _ => fun
  | [d1, d2, d3, d4] => { results := [.lit (.bool false)], args := [d1, d2, d3, d4] }
  | _ => none }
def FnBAOrMixedWrongFalsely : Prop := fnBAOrMixedRow.holds Tryz.pinned (OpenSpec.ofChange fnBAOrMixedWrong)

/- THE SECOND FORM. 'bulk': how many values and letters a reading holds, each counted each time it is reached (what is shared counts as often as it is met; a slice's spare places count too). A statement '..UptoSaid' is the law's where the arguments, and the package variables that the reading takes, are together of bulk at most 1048576: NARROWER than '..Said'. Prove '..Said' where nothing that the law and all that it calls make is longer than what came in: it says more and counts as full. Else prove '..UptoSaid'. A law counts once. -/
mutual
def uptoBulk {H : Type} : DataW H → Nat
  | .lit (.string bytes) => bytes.length + 1
  | .lit _ => 1
  | .nil => 1
  | .ptr d => uptoBulk d + 1
  | .slice elems spare => uptoBulkAll elems + uptoBulkAll spare + 1
  | .agg parts => uptoBulkAll parts + 1
  | .iface _ d => uptoBulk d + 1
  | .map entries => uptoBulkEntries entries + 1
  | .held _ => 1
def uptoBulkAll {H : Type} : List (DataW H) → Nat
  | [] => 0
  | d :: r => uptoBulk d + uptoBulkAll r
def uptoBulkEntries {H : Type} : List (Lit × DataW H) → Nat
  | [] => 0
  | x :: r => uptoBulkEntry x + uptoBulkEntries r
def uptoBulkEntry {H : Type} : Lit × DataW H → Nat
  | (.string bytes, d) => bytes.length + uptoBulk d + 1
  | (_, d) => uptoBulk d + 1
 end
def uptoSmall : (H : Type) → List (DataW H) → Bool := fun _ ds => decide (uptoBulkAll ds ≤ 1048576)
def OpenSpec.upto (s : _root_.Go.ChangeSpec) : _root_.Go.OpenSpec := { _root_.Go.OpenSpec.ofChange s with cond := some uptoSmall }

/-- 'laws.FnBAAnd', WHERE WHAT IT READS IS OF BULK AT MOST 1048576: true; the input reads as it did. -/
def fnBAAndUptoRow : OpenClaim := { program := "ytjnefgmoobbniaagreat", sum := "18e4e78db5626e42c0a6c01f626741fd8fceedc50805924247b5199b5b2ca1f5", func := "given.example/pub-lumberyard/laws.FnBAAnd", spec := "fnBAAnd", unfollowed := true, recurses := true, apart := false, narrowed := true }
def FnBAAndUptoSaid : Prop := fnBAAndUptoRow.holds Tryz.pinned (OpenSpec.upto fnBAAndSpec)

/-- 'laws.FnBAAndSparse', WHERE WHAT IT READS IS OF BULK AT MOST 1048576: true; the input reads as it did. -/
def fnBAAndSparseUptoRow : OpenClaim := { program := "ytjnefgmoobbniaagreat", sum := "18e4e78db5626e42c0a6c01f626741fd8fceedc50805924247b5199b5b2ca1f5", func := "given.example/pub-lumberyard/laws.FnBAAndSparse", spec := "fnBAAndSparse", unfollowed := true, recurses := true, apart := false, narrowed := true }
def FnBAAndSparseUptoSaid : Prop := fnBAAndSparseUptoRow.holds Tryz.pinned (OpenSpec.upto fnBAAndSparseSpec)

/-- 'laws.FnBAMeet', WHERE WHAT IT READS IS OF BULK AT MOST 1048576: true; the input reads as it did. -/
def fnBAMeetUptoRow : OpenClaim := { program := "ytjnefgmoobbniaagreat", sum := "18e4e78db5626e42c0a6c01f626741fd8fceedc50805924247b5199b5b2ca1f5", func := "given.example/pub-lumberyard/laws.FnBAMeet", spec := "fnBAMeet", unfollowed := true, recurses := true, apart := false, narrowed := true }
def FnBAMeetUptoSaid : Prop := fnBAMeetUptoRow.holds Tryz.pinned (OpenSpec.upto fnBAMeetSpec)

/-- 'laws.FnBANandMixed', WHERE WHAT IT READS IS OF BULK AT MOST 1048576: true; the input reads as it did. -/
def fnBANandMixedUptoRow : OpenClaim := { program := "ytjnefgmoobbniaagreat", sum := "18e4e78db5626e42c0a6c01f626741fd8fceedc50805924247b5199b5b2ca1f5", func := "given.example/pub-lumberyard/laws.FnBANandMixed", spec := "fnBANandMixed", unfollowed := true, recurses := true, apart := false, narrowed := true }
def FnBANandMixedUptoSaid : Prop := fnBANandMixedUptoRow.holds Tryz.pinned (OpenSpec.upto fnBANandMixedSpec)

/-- 'laws.FnBAOrMixed', WHERE WHAT IT READS IS OF BULK AT MOST 1048576: true; the input reads as it did. -/
def fnBAOrMixedUptoRow : OpenClaim := { program := "ytjnefgmoobbniaagreat", sum := "18e4e78db5626e42c0a6c01f626741fd8fceedc50805924247b5199b5b2ca1f5", func := "given.example/pub-lumberyard/laws.FnBAOrMixed", spec := "fnBAOrMixed", unfollowed := true, recurses := true, apart := false, narrowed := true }
def FnBAOrMixedUptoSaid : Prop := fnBAOrMixedUptoRow.holds Tryz.pinned (OpenSpec.upto fnBAOrMixedSpec)

end Rows
end Go.Proofs.YtjnefgmoobbniaaGreat
