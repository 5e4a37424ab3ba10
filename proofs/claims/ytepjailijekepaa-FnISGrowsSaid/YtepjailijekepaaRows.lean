/-
  No cell of these rows narrows 'for every input' (looked for: loops, veiled, ifaces, maps, wideKeys, modest, calm, conditions, laid).
  DERIVED. THE GIVEN ROWS OF THIS SEAT. 4 by the template 'for every input the law returns true; each argument reads behind the call as it read before'; 0 by the template 'total and deterministic' (their statements: YtepjailijekepaaTotals.lean).
  GIVEN WITH THE SEED: the statements are not yours to turn. If you find one false, say at which input.
  Laid BY PROGRAM, IN A SANDBOX (cutbox-rows.mjs): the forced cells as the released guide's own fill.sh prints them over the translation b44abad81a651c6e… (all of the seat's roots in one cut). By AI agents, Wed Nov 11 2026. No macro, syntax, notation, axiom, sorry.
-/
import Derived.Test.YtepjailijekepaaChecked
import GoSem.Claim
import GoSem.ClaimJoined
import GoSem.ClaimMapViews
import Derived.JoinedTies
import Derived.KernelRfl
namespace Go.Proofs.Ytepjailijekepaa
/- THE CELL 'sum', in the pinned program and in every row, IS THE sha256 OF THE DUMP (.gsa) THAT YtepjailijekepaaProg.lean LOADS. Nothing in Lean hashes anything: it is a label: what it is worth is what the hold of that sum in a sandbox is worth. -/
noncomputable def Try.pinned : Pinned := { name := "ytepjailijekepaa", sum := "b44abad81a651c6ed205ee4516a8950379244a6ed2e5f2e0a73907cbd00345c6", checked := Try.checked }
namespace Rows
def none {H : Type} : Left H := { results := [], args := [] }

/-- 'laws.FnISGrows': WHATEVER THE INPUT: true; the input reads as it did. -/
def fnISGrowsSpec : ChangeSpec := { name := "fnISGrows", fn := fun _ => fun
  | [d] => { results := [.lit (.bool true)], args := [d] }
  | _ => none }
def fnISGrowsRow : OpenClaim := { program := "ytepjailijekepaa", sum := "b44abad81a651c6ed205ee4516a8950379244a6ed2e5f2e0a73907cbd00345c6", func := "given.example/pub-lumberyard/laws.FnISGrows", spec := "fnISGrows", unfollowed := true, recurses := true, apart := false }
def FnISGrowsSaid : Prop := fnISGrowsRow.holds Try.pinned (OpenSpec.ofChange fnISGrowsSpec)

/-- ITS FALSE NEIGHBOUR: 'it returns false'. Refute it at one input. -/
def fnISGrowsWrong : ChangeSpec := { name := "fnISGrows", fn := fun _ => fun
  | [d] => { results := [.lit (.bool false)], args := [d] }
  | _ => none }
def FnISGrowsWrongFalsely : Prop := fnISGrowsRow.holds Try.pinned (OpenSpec.ofChange fnISGrowsWrong)

/-- 'laws.FnMGMerges': WHATEVER THE INPUT: true; the input reads as it did. -/
def fnMGMergesSpec : ChangeSpec := { name := "fnMGMerges", fn := fun _ => fun
  | [d1, d2] => { results := [.lit (.bool true)], args := [d1, d2] }
  | _ => none }
def fnMGMergesRow : OpenClaim := { program := "ytepjailijekepaa", sum := "b44abad81a651c6ed205ee4516a8950379244a6ed2e5f2e0a73907cbd00345c6", func := "given.example/pub-lumberyard/laws.FnMGMerges", spec := "fnMGMerges", inPlace := ["math.Float64bits", "math.Float64frombits"], unfollowed := true, recurses := true, apart := false }
def FnMGMergesSaid : Prop := fnMGMergesRow.holds Try.pinned (OpenSpec.ofChange fnMGMergesSpec)

/-- ITS FALSE NEIGHBOUR: 'it returns false'. Refute it at one input. -/
def fnMGMergesWrong : ChangeSpec := { name := "fnMGMerges", fn := fun _ => fun
  | [d1, d2] => { results := [.lit (.bool false)], args := [d1, d2] }
  | _ => none }
def FnMGMergesWrongFalsely : Prop := fnMGMergesRow.holds Try.pinned (OpenSpec.ofChange fnMGMergesWrong)

/-- 'laws.FnFHSorts': WHATEVER THE INPUT: true; the input reads as it did. -/
def fnFHSortsSpec : ChangeSpec := { name := "fnFHSorts", fn := fun _ => fun
  | [d] => { results := [.lit (.bool true)], args := [d] }
  | _ => none }
def fnFHSortsRow : OpenClaim := { program := "ytepjailijekepaa", sum := "b44abad81a651c6ed205ee4516a8950379244a6ed2e5f2e0a73907cbd00345c6", func := "given.example/pub-lumberyard/laws.FnFHSorts", spec := "fnFHSorts", recurses := true, apart := false }
def FnFHSortsSaid : Prop := fnFHSortsRow.holds Try.pinned (OpenSpec.ofChange fnFHSortsSpec)

/-- ITS FALSE NEIGHBOUR: 'it returns false'. Refute it at one input. -/
def fnFHSortsWrong : ChangeSpec := { name := "fnFHSorts", fn := fun _ => fun
  | [d] => { results := [.lit (.bool false)], args := [d] }
  | _ => none }
def FnFHSortsWrongFalsely : Prop := fnFHSortsRow.holds Try.pinned (OpenSpec.ofChange fnFHSortsWrong)

/-- 'laws.FnFHLower': WHATEVER THE INPUT: true; the input reads as it did. -/
def fnFHLowerSpec : ChangeSpec := { name := "fnFHLower", fn := fun _ => fun
  | [d1, d2, d3] => { results := [.lit (.bool true)], args := [d1, d2, d3] }
  | _ => none }
def fnFHLowerRow : OpenClaim := { program := "ytepjailijekepaa", sum := "b44abad81a651c6ed205ee4516a8950379244a6ed2e5f2e0a73907cbd00345c6", func := "given.example/pub-lumberyard/laws.FnFHLower", spec := "fnFHLower", recurses := true, apart := false }
def FnFHLowerSaid : Prop := fnFHLowerRow.holds Try.pinned (OpenSpec.ofChange fnFHLowerSpec)

/-- ITS FALSE NEIGHBOUR: 'it returns false'. Refute it at one input. -/
def fnFHLowerWrong : ChangeSpec := { name := "fnFHLower", fn := fun _ => fun
  | [d1, d2, d3] => { results := [.lit (.bool false)], args := [d1, d2, d3] }
  | _ => none }
def FnFHLowerWrongFalsely : Prop := fnFHLowerRow.holds Try.pinned (OpenSpec.ofChange fnFHLowerWrong)

/- THE SECOND FORM. 'bulk': how many values and letters a reading holds, each counted each time it is reached (what is shared counts as often as it is met; a slice's spare places count too). A statement '..UptoSaid' is the law's where the arguments, and the package variables that the reading takes, are together of bulk at most 1048576: NARROWER than '..Said'. Prove '..Said' where nothing that the law and all that it calls make is longer than what came in: it says more and counts as full. Else prove '..UptoSaid'. A law counts once. -/
mutual
def uptoBulk {H : Type} : DataW H → Nat
  | .lit (.string bytes) => bytes.length + 1
  | .lit _ => 1
  | .nil => 1
  | .ptr d => uptoBulk d + 1
  | .slice elems spare => uptoBulkAll elems + uptoBulkAll spare + 1
  | .agg parts => uptoBulkAll parts + 1
  | .iface _ d => uptoBulk d + 1
  | .map entries => uptoBulkEntries entries + 1
  | .held _ => 1
def uptoBulkAll {H : Type} : List (DataW H) → Nat
  | [] => 0
  | d :: r => uptoBulk d + uptoBulkAll r
def uptoBulkEntries {H : Type} : List (Lit × DataW H) → Nat
  | [] => 0
  | x :: r => uptoBulkEntry x + uptoBulkEntries r
def uptoBulkEntry {H : Type} : Lit × DataW H → Nat
  | (.string bytes, d) => bytes.length + uptoBulk d + 1
  | (_, d) => uptoBulk d + 1
 end
def uptoSmall : (H : Type) → List (DataW H) → Bool := fun _ ds => decide (uptoBulkAll ds ≤ 1048576)
def OpenSpec.upto (s : _root_.Go.ChangeSpec) : _root_.Go.OpenSpec := { _root_.Go.OpenSpec.ofChange s with cond := some uptoSmall }

/-- 'laws.FnISGrows', WHERE WHAT IT READS IS OF BULK AT MOST 1048576: true; the input reads as it did. -/
def fnISGrowsUptoRow : OpenClaim := { program := "ytepjailijekepaa", sum := "b44abad81a651c6ed205ee4516a8950379244a6ed2e5f2e0a73907cbd00345c6", func := "given.example/pub-lumberyard/laws.FnISGrows", spec := "fnISGrows", unfollowed := true, recurses := true, apart := false, narrowed := true }
def FnISGrowsUptoSaid : Prop := fnISGrowsUptoRow.holds Try.pinned (OpenSpec.upto fnISGrowsSpec)

/-- 'laws.FnMGMerges', WHERE WHAT IT READS IS OF BULK AT MOST 1048576: true; the input reads as it did. -/
def fnMGMergesUptoRow : OpenClaim := { program := "ytepjailijekepaa", sum := "b44abad81a651c6ed205ee4516a8950379244a6ed2e5f2e0a73907cbd00345c6", func := "given.example/pub-lumberyard/laws.FnMGMerges", spec := "fnMGMerges", inPlace := ["math.Float64bits", "math.Float64frombits"], unfollowed := true, recurses := true, apart := false, narrowed := true }
def FnMGMergesUptoSaid : Prop := fnMGMergesUptoRow.holds Try.pinned (OpenSpec.upto fnMGMergesSpec)

/-- 'laws.FnFHSorts', WHERE WHAT IT READS IS OF BULK AT MOST 1048576: true; the input reads as it did. -/
def fnFHSortsUptoRow : OpenClaim := { program := "ytepjailijekepaa", sum := "b44abad81a651c6ed205ee4516a8950379244a6ed2e5f2e0a73907cbd00345c6", func := "given.example/pub-lumberyard/laws.FnFHSorts", spec := "fnFHSorts", recurses := true, apart := false, narrowed := true }
def FnFHSortsUptoSaid : Prop := fnFHSortsUptoRow.holds Try.pinned (OpenSpec.upto fnFHSortsSpec)

/-- 'laws.FnFHLower', WHERE WHAT IT READS IS OF BULK AT MOST 1048576: true; the input reads as it did. -/
def fnFHLowerUptoRow : OpenClaim := { program := "ytepjailijekepaa", sum := "b44abad81a651c6ed205ee4516a8950379244a6ed2e5f2e0a73907cbd00345c6", func := "given.example/pub-lumberyard/laws.FnFHLower", spec := "fnFHLower", recurses := true, apart := false, narrowed := true }
def FnFHLowerUptoSaid : Prop := fnFHLowerUptoRow.holds Try.pinned (OpenSpec.upto fnFHLowerSpec)

end Rows
end Go.Proofs.Ytepjailijekepaa
