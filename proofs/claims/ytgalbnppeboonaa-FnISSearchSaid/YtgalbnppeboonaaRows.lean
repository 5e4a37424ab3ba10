/-
  No cell of these rows narrows 'for every input' (looked for: loops, veiled, ifaces, maps, wideKeys, modest, calm, conditions, laid).
  DERIVED. THE GIVEN ROWS OF THIS SEAT. 4 by the template 'for every input the law returns true; each argument reads behind the call as it read before'; 0 by the template 'total and deterministic' (their statements: YtgalbnppeboonaaTotals.lean).
  GIVEN WITH THE SEED: the statements are not yours to turn. If you find one false, say at which input.
  Laid BY PROGRAM, IN A SANDBOX (cutbox-rows.mjs): the forced cells as the released guide's own fill.sh prints them over the translation f6aadbcdd99fe7f3… (all of the seat's roots in one cut). By AI agents, Wed Nov 11 2026. No macro, syntax, notation, axiom, sorry.
-/
import Derived.Test.YtgalbnppeboonaaChecked
import GoSem.Claim
import GoSem.ClaimJoined
import GoSem.ClaimMapViews
import Derived.JoinedTies
import Derived.KernelRfl
namespace Go.Proofs.Ytgalbnppeboonaa
/- THE CELL 'sum', in the pinned program and in every row, IS THE sha256 OF THE DUMP (.gsa) THAT YtgalbnppeboonaaProg.lean LOADS. Nothing in Lean hashes anything: it is a label: what it is worth is what the hold of that sum in a sandbox is worth. -/
noncomputable def Try.pinned : Pinned := { name := "ytgalbnppeboonaa", sum := "f6aadbcdd99fe7f356829e3c9c6eaaa9dccb3320f787e64fb65234e79512fcba", checked := Try.checked }
namespace Rows
def none {H : Type} : Left H := { results := [], args := [] }

/-- 'laws.FnBM64': WHATEVER THE INPUT: true; the input reads as it did. -/
def fnBM64Spec : ChangeSpec := { name := "fnBM64", fn := fun _ => fun
  | [d1, d2] => { results := [.lit (.bool true)], args := [d1, d2] }
  | _ => none }
def fnBM64Row : OpenClaim := { program := "ytgalbnppeboonaa", sum := "f6aadbcdd99fe7f356829e3c9c6eaaa9dccb3320f787e64fb65234e79512fcba", func := "given.example/pub-lumberyard/laws.FnBM64", spec := "fnBM64", apart := false }
def FnBM64Said : Prop := fnBM64Row.holds Try.pinned (OpenSpec.ofChange fnBM64Spec)

/-- ITS FALSE NEIGHBOUR: 'it returns false'. Refute it at one input. -/
def fnBM64Wrong : ChangeSpec := { name := "fnBM64", fn := fun _ => fun
  | [d1, d2] => { results := [.lit (.bool false)], args := [d1, d2] }
  | _ => none }
def FnBM64WrongFalsely : Prop := fnBM64Row.holds Try.pinned (OpenSpec.ofChange fnBM64Wrong)

/-- 'laws.FnHLSquare': WHATEVER THE INPUT: true; the input reads as it did. -/
def fnHLSquareSpec : ChangeSpec := { name := "fnHLSquare", fn := fun _ => fun
  | [d1, d2, d3] => { results := [.lit (.bool true)], args := [d1, d2, d3] }
  | _ => none }
def fnHLSquareRow : OpenClaim := { program := "ytgalbnppeboonaa", sum := "f6aadbcdd99fe7f356829e3c9c6eaaa9dccb3320f787e64fb65234e79512fcba", func := "given.example/pub-lumberyard/laws.FnHLSquare", spec := "fnHLSquare", apart := false }
def FnHLSquareSaid : Prop := fnHLSquareRow.holds Try.pinned (OpenSpec.ofChange fnHLSquareSpec)

/-- ITS FALSE NEIGHBOUR: 'it returns false'. Refute it at one input. -/
def fnHLSquareWrong : ChangeSpec := { name := "fnHLSquare", fn := fun _ => fun
  | [d1, d2, d3] => { results := [.lit (.bool false)], args := [d1, d2, d3] }
  | _ => none }
def FnHLSquareWrongFalsely : Prop := fnHLSquareRow.holds Try.pinned (OpenSpec.ofChange fnHLSquareWrong)

/-- 'laws.FnISSearch': WHATEVER THE INPUT: true; the input reads as it did. -/
def fnISSearchSpec : ChangeSpec := { name := "fnISSearch", fn := fun _ => fun
  | [d1, d2] => { results := [.lit (.bool true)], args := [d1, d2] }
  | _ => none }
def fnISSearchRow : OpenClaim := { program := "ytgalbnppeboonaa", sum := "f6aadbcdd99fe7f356829e3c9c6eaaa9dccb3320f787e64fb65234e79512fcba", func := "given.example/pub-lumberyard/laws.FnISSearch", spec := "fnISSearch", unfollowed := true, recurses := true, apart := false }
def FnISSearchSaid : Prop := fnISSearchRow.holds Try.pinned (OpenSpec.ofChange fnISSearchSpec)

/-- ITS FALSE NEIGHBOUR: 'it returns false'. Refute it at one input. -/
def fnISSearchWrong : ChangeSpec := { name := "fnISSearch", fn := fun _ => fun
  | [d1, d2] => { results := [.lit (.bool false)], args := [d1, d2] }
  | _ => none }
def FnISSearchWrongFalsely : Prop := fnISSearchRow.holds Try.pinned (OpenSpec.ofChange fnISSearchWrong)

/-- 'laws.FnHLEncode': WHATEVER THE INPUT: true; the input reads as it did. -/
def fnHLEncodeSpec : ChangeSpec := { name := "fnHLEncode", fn := fun _ => fun
  | [d1, d2] => { results := [.lit (.bool true)], args := [d1, d2] }
  | _ => none }
def fnHLEncodeRow : OpenClaim := { program := "ytgalbnppeboonaa", sum := "f6aadbcdd99fe7f356829e3c9c6eaaa9dccb3320f787e64fb65234e79512fcba", func := "given.example/pub-lumberyard/laws.FnHLEncode", spec := "fnHLEncode", recurses := true, apart := false }
def FnHLEncodeSaid : Prop := fnHLEncodeRow.holds Try.pinned (OpenSpec.ofChange fnHLEncodeSpec)

/-- ITS FALSE NEIGHBOUR: 'it returns false'. Refute it at one input. -/
def fnHLEncodeWrong : ChangeSpec := { name := "fnHLEncode", fn := fun _ => fun
  | [d1, d2] => { results := [.lit (.bool false)], args := [d1, d2] }
  | _ => none }
def FnHLEncodeWrongFalsely : Prop := fnHLEncodeRow.holds Try.pinned (OpenSpec.ofChange fnHLEncodeWrong)

/- THE SECOND FORM. 'bulk': how many values and letters a reading holds, each counted each time it is reached (what is shared counts as often as it is met; a slice's spare places count too). A statement '..UptoSaid' is the law's where the arguments, and the package variables that the reading takes, are together of bulk at most 1048576: NARROWER than '..Said'. Prove '..Said' where nothing that the law and all that it calls make is longer than what came in: it says more and counts as full. Else prove '..UptoSaid'. A law counts once. -/
mutual
def uptoBulk {H : Type} : DataW H → Nat
  | .lit (.string bytes) => bytes.length + 1
  | .lit _ => 1
  | .nil => 1
  | .ptr d => uptoBulk d + 1
  | .slice elems spare => uptoBulkAll elems + uptoBulkAll spare + 1
  | .agg parts => uptoBulkAll parts + 1
  | .iface _ d => uptoBulk d + 1
  | .map entries => uptoBulkEntries entries + 1
  | .held _ => 1
def uptoBulkAll {H : Type} : List (DataW H) → Nat
  | [] => 0
  | d :: r => uptoBulk d + uptoBulkAll r
def uptoBulkEntries {H : Type} : List (Lit × DataW H) → Nat
  | [] => 0
  | x :: r => uptoBulkEntry x + uptoBulkEntries r
def uptoBulkEntry {H : Type} : Lit × DataW H → Nat
  | (.string bytes, d) => bytes.length + uptoBulk d + 1
  | (_, d) => uptoBulk d + 1
 end
def uptoSmall : (H : Type) → List (DataW H) → Bool := fun _ ds => decide (uptoBulkAll ds ≤ 1048576)
def OpenSpec.upto (s : _root_.Go.ChangeSpec) : _root_.Go.OpenSpec := { _root_.Go.OpenSpec.ofChange s with cond := some uptoSmall }

/-- 'laws.FnBM64', WHERE WHAT IT READS IS OF BULK AT MOST 1048576: true; the input reads as it did. -/
def fnBM64UptoRow : OpenClaim := { program := "ytgalbnppeboonaa", sum := "f6aadbcdd99fe7f356829e3c9c6eaaa9dccb3320f787e64fb65234e79512fcba", func := "given.example/pub-lumberyard/laws.FnBM64", spec := "fnBM64", apart := false, narrowed := true }
def FnBM64UptoSaid : Prop := fnBM64UptoRow.holds Try.pinned (OpenSpec.upto fnBM64Spec)

/-- 'laws.FnHLSquare', WHERE WHAT IT READS IS OF BULK AT MOST 1048576: true; the input reads as it did. -/
def fnHLSquareUptoRow : OpenClaim := { program := "ytgalbnppeboonaa", sum := "f6aadbcdd99fe7f356829e3c9c6eaaa9dccb3320f787e64fb65234e79512fcba", func := "given.example/pub-lumberyard/laws.FnHLSquare", spec := "fnHLSquare", apart := false, narrowed := true }
def FnHLSquareUptoSaid : Prop := fnHLSquareUptoRow.holds Try.pinned (OpenSpec.upto fnHLSquareSpec)

/-- 'laws.FnISSearch', WHERE WHAT IT READS IS OF BULK AT MOST 1048576: true; the input reads as it did. -/
def fnISSearchUptoRow : OpenClaim := { program := "ytgalbnppeboonaa", sum := "f6aadbcdd99fe7f356829e3c9c6eaaa9dccb3320f787e64fb65234e79512fcba", func := "given.example/pub-lumberyard/laws.FnISSearch", spec := "fnISSearch", unfollowed := true, recurses := true, apart := false, narrowed := true }
def FnISSearchUptoSaid : Prop := fnISSearchUptoRow.holds Try.pinned (OpenSpec.upto fnISSearchSpec)

/-- 'laws.FnHLEncode', WHERE WHAT IT READS IS OF BULK AT MOST 1048576: true; the input reads as it did. -/
def fnHLEncodeUptoRow : OpenClaim := { program := "ytgalbnppeboonaa", sum := "f6aadbcdd99fe7f356829e3c9c6eaaa9dccb3320f787e64fb65234e79512fcba", func := "given.example/pub-lumberyard/laws.FnHLEncode", spec := "fnHLEncode", recurses := true, apart := false, narrowed := true }
def FnHLEncodeUptoSaid : Prop := fnHLEncodeUptoRow.holds Try.pinned (OpenSpec.upto fnHLEncodeSpec)

end Rows
end Go.Proofs.Ytgalbnppeboonaa
