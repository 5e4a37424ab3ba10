/-
  NARROWER THAN 'FOR EVERY INPUT', by the rows' own cells (each row's printed sentence says how): FnPQOnce: ifaces, laid · FnPQRuns: ifaces, laid.
  DERIVED. THE GIVEN ROWS OF THIS SEAT. 2 by the template 'for every input the law returns true; each argument reads behind the call as it read before'; 0 by the template 'total and deterministic' (their statements: YtepjailijekepaaDoorTotals.lean).
  GIVEN WITH THE SEED: the statements are not yours to turn. If you find one false, say at which input.
  Laid BY PROGRAM, IN A SANDBOX (cutbox-rows.mjs): the forced cells as the released guide's own fill.sh prints them over the translation 46f66b958fdf3ec7… (all of the seat's roots in one cut). By AI agents, Wed Nov 11 2026. No macro, syntax, notation, axiom, sorry.
-/
import Derived.Test.YtepjailijekepaaDoorChecked
import GoSem.Claim
import GoSem.ClaimJoined
import GoSem.ClaimMapViews
import Derived.JoinedTies
import Derived.KernelRfl
namespace Go.Proofs.YtepjailijekepaaDoor
/- THE CELL 'sum', in the pinned program and in every row, IS THE sha256 OF THE DUMP (.gsa) THAT YtepjailijekepaaDoorProg.lean LOADS. Nothing in Lean hashes anything: it is a label: what it is worth is what the hold of that sum in a sandbox is worth. -/
noncomputable def Tryd.pinned : Pinned := { name := "ytepjailijekepaadoor", sum := "46f66b958fdf3ec7626144e60254029a8b10c590f36c82b128bd5abf77b7e17b", checked := Tryd.checked }
namespace Rows
def none {H : Type} : Left H := { results := [], args := [] }

/- WHAT THE LISTED PACKAGE-LEVEL VARIABLES READ AS WHEN THE CALL BEGINS. Each datum BY PROGRAM (the guide's laid-datum.mjs) off the statement by which the dump's own 'gosem.cut.vars' lays the variable. In a bare row this is a premise. The card (YtepjailijekepaaDoorCards.lean) ties it to the program's text. -/
def laid_given_example_pub_lumberyard_pub_godatastructures_queue_ErrDisposed {H : Type} : DataW H := .iface "*errors.errorString" (.ptr (.agg [.lit (.string [113, 117, 101, 117, 101, 58, 32, 100, 105, 115, 112, 111, 115, 101, 100])]))
def laid_given_example_pub_lumberyard_pub_godatastructures_queue_ErrTimeout {H : Type} : DataW H := .iface "*errors.errorString" (.ptr (.agg [.lit (.string [113, 117, 101, 117, 101, 58, 32, 112, 111, 108, 108, 32, 116, 105, 109, 101, 100, 32, 111, 117, 116])]))
def laid_given_example_pub_lumberyard_pub_godatastructures_queue_ErrEmptyQueue {H : Type} : DataW H := .iface "*errors.errorString" (.ptr (.agg [.lit (.string [113, 117, 101, 117, 101, 58, 32, 101, 109, 112, 116, 121, 32, 113, 117, 101, 117, 101])]))

/-- 'laws.FnPQOnce': WHATEVER THE INPUT: true; the input reads as it did. -/
def fnPQOnceSpec : ChangeSpec := { name := "fnPQOnce", vars := ["given.example/pub-lumberyard/pub/godatastructures/queue.ErrDisposed", "given.example/pub-lumberyard/pub/godatastructures/queue.ErrTimeout", "given.example/pub-lumberyard/pub/godatastructures/queue.ErrEmptyQueue"], fn := fun _ => fun
  | [d, g1, g2, g3] => { results := [.lit (.bool true)], args := [d], vars := [g1, g2, g3] }
  | _ => none }
def fnPQOnceRow : OpenClaim := { program := "ytepjailijekepaadoor", sum := "46f66b958fdf3ec7626144e60254029a8b10c590f36c82b128bd5abf77b7e17b", func := "given.example/pub-lumberyard/laws.FnPQOnce", spec := "fnPQOnce", unfollowed := true, recurses := true, named := ["given.example/pub-lumberyard/pub/godatastructures/queue.ErrDisposed", "given.example/pub-lumberyard/pub/godatastructures/queue.ErrTimeout", "given.example/pub-lumberyard/pub/godatastructures/queue.ErrEmptyQueue"], ifaces := true, apart := false, laid := [("given.example/pub-lumberyard/pub/godatastructures/queue.ErrDisposed", laid_given_example_pub_lumberyard_pub_godatastructures_queue_ErrDisposed), ("given.example/pub-lumberyard/pub/godatastructures/queue.ErrTimeout", laid_given_example_pub_lumberyard_pub_godatastructures_queue_ErrTimeout), ("given.example/pub-lumberyard/pub/godatastructures/queue.ErrEmptyQueue", laid_given_example_pub_lumberyard_pub_godatastructures_queue_ErrEmptyQueue)] }
def FnPQOnceSaid : Prop := fnPQOnceRow.holds Tryd.pinned (OpenSpec.ofChange fnPQOnceSpec)

/-- ITS FALSE NEIGHBOUR: 'it returns false'. Refute it at one input. -/
def fnPQOnceWrong : ChangeSpec := { name := "fnPQOnce", vars := ["given.example/pub-lumberyard/pub/godatastructures/queue.ErrDisposed", "given.example/pub-lumberyard/pub/godatastructures/queue.ErrTimeout", "given.example/pub-lumberyard/pub/godatastructures/queue.ErrEmptyQueue"], fn := fun _ => fun
  | [d, g1, g2, g3] => { results := [.lit (.bool false)], args := [d], vars := [g1, g2, g3] }
  | _ => none }
def FnPQOnceWrongFalsely : Prop := fnPQOnceRow.holds Tryd.pinned (OpenSpec.ofChange fnPQOnceWrong)

/-- 'laws.FnPQRuns': WHATEVER THE INPUT: true; the input reads as it did. -/
def fnPQRunsSpec : ChangeSpec := { name := "fnPQRuns", vars := ["given.example/pub-lumberyard/pub/godatastructures/queue.ErrDisposed", "given.example/pub-lumberyard/pub/godatastructures/queue.ErrTimeout", "given.example/pub-lumberyard/pub/godatastructures/queue.ErrEmptyQueue"], fn := fun _ => fun
  | [d1, d2, d3, g1, g2, g3] => { results := [.lit (.bool true)], args := [d1, d2, d3], vars := [g1, g2, g3] }
  | _ => none }
def fnPQRunsRow : OpenClaim := { program := "ytepjailijekepaadoor", sum := "46f66b958fdf3ec7626144e60254029a8b10c590f36c82b128bd5abf77b7e17b", func := "given.example/pub-lumberyard/laws.FnPQRuns", spec := "fnPQRuns", unfollowed := true, recurses := true, named := ["given.example/pub-lumberyard/pub/godatastructures/queue.ErrDisposed", "given.example/pub-lumberyard/pub/godatastructures/queue.ErrTimeout", "given.example/pub-lumberyard/pub/godatastructures/queue.ErrEmptyQueue"], ifaces := true, apart := false, laid := [("given.example/pub-lumberyard/pub/godatastructures/queue.ErrDisposed", laid_given_example_pub_lumberyard_pub_godatastructures_queue_ErrDisposed), ("given.example/pub-lumberyard/pub/godatastructures/queue.ErrTimeout", laid_given_example_pub_lumberyard_pub_godatastructures_queue_ErrTimeout), ("given.example/pub-lumberyard/pub/godatastructures/queue.ErrEmptyQueue", laid_given_example_pub_lumberyard_pub_godatastructures_queue_ErrEmptyQueue)] }
def FnPQRunsSaid : Prop := fnPQRunsRow.holds Tryd.pinned (OpenSpec.ofChange fnPQRunsSpec)

/-- ITS FALSE NEIGHBOUR: 'it returns false'. Refute it at one input. -/
def fnPQRunsWrong : ChangeSpec := { name := "fnPQRuns", vars := ["given.example/pub-lumberyard/pub/godatastructures/queue.ErrDisposed", "given.example/pub-lumberyard/pub/godatastructures/queue.ErrTimeout", "given.example/pub-lumberyard/pub/godatastructures/queue.ErrEmptyQueue"], fn := fun _ => fun
  | [d1, d2, d3, g1, g2, g3] => { results := [.lit (.bool false)], args := [d1, d2, d3], vars := [g1, g2, g3] }
  | _ => none }
def FnPQRunsWrongFalsely : Prop := fnPQRunsRow.holds Tryd.pinned (OpenSpec.ofChange fnPQRunsWrong)

/- THE SECOND FORM. 'bulk': how many values and letters a reading holds, each counted each time it is reached (what is shared counts as often as it is met; a slice's spare places count too). A statement '..UptoSaid' is the law's where the arguments, and the package variables that the reading takes, are together of bulk at most 1048576: NARROWER than '..Said'. Prove '..Said' where nothing that the law and all that it calls make is longer than what came in: it says more and counts as full. Else prove '..UptoSaid'. A law counts once. -/
mutual
def uptoBulk {H : Type} : DataW H → Nat
  | .lit (.string bytes) => bytes.length + 1
  | .lit _ => 1
  | .nil => 1
  | .ptr d => uptoBulk d + 1
  | .slice elems spare => uptoBulkAll elems + uptoBulkAll spare + 1
  | .agg parts => uptoBulkAll parts + 1
  | .iface _ d => uptoBulk d + 1
  | .map entries => uptoBulkEntries entries + 1
  | .held _ => 1
def uptoBulkAll {H : Type} : List (DataW H) → Nat
  | [] => 0
  | d :: r => uptoBulk d + uptoBulkAll r
def uptoBulkEntries {H : Type} : List (Lit × DataW H) → Nat
  | [] => 0
  | x :: r => uptoBulkEntry x + uptoBulkEntries r
def uptoBulkEntry {H : Type} : Lit × DataW H → Nat
  | (.string bytes, d) => bytes.length + uptoBulk d + 1
  | (_, d) => uptoBulk d + 1
 end
def uptoSmall : (H : Type) → List (DataW H) → Bool := fun _ ds => decide (uptoBulkAll ds ≤ 1048576)
def OpenSpec.upto (s : _root_.Go.ChangeSpec) : _root_.Go.OpenSpec := { _root_.Go.OpenSpec.ofChange s with cond := some uptoSmall }

/-- 'laws.FnPQOnce', WHERE WHAT IT READS IS OF BULK AT MOST 1048576: true; the input reads as it did. -/
def fnPQOnceUptoRow : OpenClaim := { program := "ytepjailijekepaadoor", sum := "46f66b958fdf3ec7626144e60254029a8b10c590f36c82b128bd5abf77b7e17b", func := "given.example/pub-lumberyard/laws.FnPQOnce", spec := "fnPQOnce", unfollowed := true, recurses := true, named := ["given.example/pub-lumberyard/pub/godatastructures/queue.ErrDisposed", "given.example/pub-lumberyard/pub/godatastructures/queue.ErrTimeout", "given.example/pub-lumberyard/pub/godatastructures/queue.ErrEmptyQueue"], ifaces := true, apart := false, laid := [("given.example/pub-lumberyard/pub/godatastructures/queue.ErrDisposed", laid_given_example_pub_lumberyard_pub_godatastructures_queue_ErrDisposed), ("given.example/pub-lumberyard/pub/godatastructures/queue.ErrTimeout", laid_given_example_pub_lumberyard_pub_godatastructures_queue_ErrTimeout), ("given.example/pub-lumberyard/pub/godatastructures/queue.ErrEmptyQueue", laid_given_example_pub_lumberyard_pub_godatastructures_queue_ErrEmptyQueue)], narrowed := true }
def FnPQOnceUptoSaid : Prop := fnPQOnceUptoRow.holds Tryd.pinned (OpenSpec.upto fnPQOnceSpec)

/-- 'laws.FnPQRuns', WHERE WHAT IT READS IS OF BULK AT MOST 1048576: true; the input reads as it did. -/
def fnPQRunsUptoRow : OpenClaim := { program := "ytepjailijekepaadoor", sum := "46f66b958fdf3ec7626144e60254029a8b10c590f36c82b128bd5abf77b7e17b", func := "given.example/pub-lumberyard/laws.FnPQRuns", spec := "fnPQRuns", unfollowed := true, recurses := true, named := ["given.example/pub-lumberyard/pub/godatastructures/queue.ErrDisposed", "given.example/pub-lumberyard/pub/godatastructures/queue.ErrTimeout", "given.example/pub-lumberyard/pub/godatastructures/queue.ErrEmptyQueue"], ifaces := true, apart := false, laid := [("given.example/pub-lumberyard/pub/godatastructures/queue.ErrDisposed", laid_given_example_pub_lumberyard_pub_godatastructures_queue_ErrDisposed), ("given.example/pub-lumberyard/pub/godatastructures/queue.ErrTimeout", laid_given_example_pub_lumberyard_pub_godatastructures_queue_ErrTimeout), ("given.example/pub-lumberyard/pub/godatastructures/queue.ErrEmptyQueue", laid_given_example_pub_lumberyard_pub_godatastructures_queue_ErrEmptyQueue)], narrowed := true }
def FnPQRunsUptoSaid : Prop := fnPQRunsUptoRow.holds Tryd.pinned (OpenSpec.upto fnPQRunsSpec)

end Rows
end Go.Proofs.YtepjailijekepaaDoor
