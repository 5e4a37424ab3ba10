/-
  No cell of these rows narrows 'for every input' (looked for: loops, veiled, ifaces, maps, wideKeys, modest, calm, conditions, laid).
  DERIVED. THE GIVEN ROWS OF THIS SEAT. 3 by the template 'for every input the law returns true; each argument reads behind the call as it read before'; 0 by the template 'total and deterministic' (their statements: YtdmkijdokmnicaaTotals.lean).
  GIVEN WITH THE SEED: the statements are not yours to turn. If you find one false, say at which input.
  Laid BY PROGRAM, IN A SANDBOX (cutbox-rows.mjs): the forced cells as the released guide's own fill.sh prints them over the translation 269cb79fee016fa5… (all of the seat's roots in one cut). By AI agents, Wed Nov 11 2026. No macro, syntax, notation, axiom, sorry.
-/
import Derived.Test.YtdmkijdokmnicaaChecked
import GoSem.Claim
import GoSem.ClaimJoined
import GoSem.ClaimMapViews
import Derived.JoinedTies
import Derived.KernelRfl
namespace Go.Proofs.Ytdmkijdokmnicaa
/- THE CELL 'sum', in the pinned program and in every row, IS THE sha256 OF THE DUMP (.gsa) THAT YtdmkijdokmnicaaProg.lean LOADS. Nothing in Lean hashes anything: it is a label: what it is worth is what the hold of that sum in a sandbox is worth. -/
noncomputable def Try.pinned : Pinned := { name := "ytdmkijdokmnicaa", sum := "269cb79fee016fa5c4b53353d2352eac9506c01121806f70fd9e57c69e000930", checked := Try.checked }
namespace Rows
def none {H : Type} : Left H := { results := [], args := [] }

/-- 'laws.FnFIMany': WHATEVER THE INPUT: true; the input reads as it did. -/
def fnFIManySpec : ChangeSpec := { name := "fnFIMany", fn := fun _ => fun
  | [d1, d2, d3, d4] => { results := [.lit (.bool true)], args := [d1, d2, d3, d4] }
  | _ => none }
def fnFIManyRow : OpenClaim := { program := "ytdmkijdokmnicaa", sum := "269cb79fee016fa5c4b53353d2352eac9506c01121806f70fd9e57c69e000930", func := "given.example/pub-lumberyard/laws.FnFIMany", spec := "fnFIMany", apart := false }
def FnFIManySaid : Prop := fnFIManyRow.holds Try.pinned (OpenSpec.ofChange fnFIManySpec)

/-- ITS FALSE NEIGHBOUR: 'it returns false'. Refute it at one input. -/
def fnFIManyWrong : ChangeSpec := { name := "fnFIMany", fn := fun _ => fun
  | [d1, d2, d3, d4] => { results := [.lit (.bool false)], args := [d1, d2, d3, d4] }
  | _ => none }
def FnFIManyWrongFalsely : Prop := fnFIManyRow.holds Try.pinned (OpenSpec.ofChange fnFIManyWrong)

/-- 'laws.FnFIRuns': WHATEVER THE INPUT: true; the input reads as it did. -/
def fnFIRunsSpec : ChangeSpec := { name := "fnFIRuns", fn := fun _ => fun
  | [d1, d2] => { results := [.lit (.bool true)], args := [d1, d2] }
  | _ => none }
def fnFIRunsRow : OpenClaim := { program := "ytdmkijdokmnicaa", sum := "269cb79fee016fa5c4b53353d2352eac9506c01121806f70fd9e57c69e000930", func := "given.example/pub-lumberyard/laws.FnFIRuns", spec := "fnFIRuns", apart := false }
def FnFIRunsSaid : Prop := fnFIRunsRow.holds Try.pinned (OpenSpec.ofChange fnFIRunsSpec)

/-- ITS FALSE NEIGHBOUR: 'it returns false'. Refute it at one input. -/
def fnFIRunsWrong : ChangeSpec := { name := "fnFIRuns", fn := fun _ => fun
  | [d1, d2] => { results := [.lit (.bool false)], args := [d1, d2] }
  | _ => none }
def FnFIRunsWrongFalsely : Prop := fnFIRunsRow.holds Try.pinned (OpenSpec.ofChange fnFIRunsWrong)

/-- 'laws.FnSTAny': WHATEVER THE INPUT: true; the input reads as it did. -/
def fnSTAnySpec : ChangeSpec := { name := "fnSTAny", fn := fun _ => fun
  | [d1, d2] => { results := [.lit (.bool true)], args := [d1, d2] }
  | _ => none }
def fnSTAnyRow : OpenClaim := { program := "ytdmkijdokmnicaa", sum := "269cb79fee016fa5c4b53353d2352eac9506c01121806f70fd9e57c69e000930", func := "given.example/pub-lumberyard/laws.FnSTAny", spec := "fnSTAny", apart := false }
def FnSTAnySaid : Prop := fnSTAnyRow.holds Try.pinned (OpenSpec.ofChange fnSTAnySpec)

/-- ITS FALSE NEIGHBOUR: 'it returns false'. Refute it at one input. -/
def fnSTAnyWrong : ChangeSpec := { name := "fnSTAny", fn := fun _ => fun
  | [d1, d2] => { results := [.lit (.bool false)], args := [d1, d2] }
  | _ => none }
def FnSTAnyWrongFalsely : Prop := fnSTAnyRow.holds Try.pinned (OpenSpec.ofChange fnSTAnyWrong)

/- THE SECOND FORM. 'bulk': how many values and letters a reading holds, each counted each time it is reached (what is shared counts as often as it is met; a slice's spare places count too). A statement '..UptoSaid' is the law's where the arguments, and the package variables that the reading takes, are together of bulk at most 1048576: NARROWER than '..Said'. Prove '..Said' where nothing that the law and all that it calls make is longer than what came in: it says more and counts as full. Else prove '..UptoSaid'. A law counts once. -/
mutual
def uptoBulk {H : Type} : DataW H → Nat
  | .lit (.string bytes) => bytes.length + 1
  | .lit _ => 1
  | .nil => 1
  | .ptr d => uptoBulk d + 1
  | .slice elems spare => uptoBulkAll elems + uptoBulkAll spare + 1
  | .agg parts => uptoBulkAll parts + 1
  | .iface _ d => uptoBulk d + 1
  | .map entries => uptoBulkEntries entries + 1
  | .held _ => 1
def uptoBulkAll {H : Type} : List (DataW H) → Nat
  | [] => 0
  | d :: r => uptoBulk d + uptoBulkAll r
def uptoBulkEntries {H : Type} : List (Lit × DataW H) → Nat
  | [] => 0
  | x :: r => uptoBulkEntry x + uptoBulkEntries r
def uptoBulkEntry {H : Type} : Lit × DataW H → Nat
  | (.string bytes, d) => bytes.length + uptoBulk d + 1
  | (_, d) => uptoBulk d + 1
 end
def uptoSmall : (H : Type) → List (DataW H) → Bool := fun _ ds => decide (uptoBulkAll ds ≤ 1048576)
def OpenSpec.upto (s : _root_.Go.ChangeSpec) : _root_.Go.OpenSpec := { _root_.Go.OpenSpec.ofChange s with cond := some uptoSmall }

/-- 'laws.FnFIMany', WHERE WHAT IT READS IS OF BULK AT MOST 1048576: true; the input reads as it did. -/
def fnFIManyUptoRow : OpenClaim := { program := "ytdmkijdokmnicaa", sum := "269cb79fee016fa5c4b53353d2352eac9506c01121806f70fd9e57c69e000930", func := "given.example/pub-lumberyard/laws.FnFIMany", spec := "fnFIMany", apart := false, narrowed := true }
def FnFIManyUptoSaid : Prop := fnFIManyUptoRow.holds Try.pinned (OpenSpec.upto fnFIManySpec)

/-- 'laws.FnFIRuns', WHERE WHAT IT READS IS OF BULK AT MOST 1048576: true; the input reads as it did. -/
def fnFIRunsUptoRow : OpenClaim := { program := "ytdmkijdokmnicaa", sum := "269cb79fee016fa5c4b53353d2352eac9506c01121806f70fd9e57c69e000930", func := "given.example/pub-lumberyard/laws.FnFIRuns", spec := "fnFIRuns", apart := false, narrowed := true }
def FnFIRunsUptoSaid : Prop := fnFIRunsUptoRow.holds Try.pinned (OpenSpec.upto fnFIRunsSpec)

/-- 'laws.FnSTAny', WHERE WHAT IT READS IS OF BULK AT MOST 1048576: true; the input reads as it did. -/
def fnSTAnyUptoRow : OpenClaim := { program := "ytdmkijdokmnicaa", sum := "269cb79fee016fa5c4b53353d2352eac9506c01121806f70fd9e57c69e000930", func := "given.example/pub-lumberyard/laws.FnSTAny", spec := "fnSTAny", apart := false, narrowed := true }
def FnSTAnyUptoSaid : Prop := fnSTAnyUptoRow.holds Try.pinned (OpenSpec.upto fnSTAnySpec)

end Rows
end Go.Proofs.Ytdmkijdokmnicaa
