/- The walk of the law FnFHLower: it returns true at every input. -/
import Derived.Test.YtmhackiiiehlmaaFhSortsLaw
import Derived.Test.YtmhackiiiehlmaaFhLower
namespace Go.Proofs.Ytmhackiiiehlmaa
set_option linter.unusedVariables false
open Go.RowKit Go.Sort Go.Lib

theorem law_fhlower (v0 v1 : Value) (f : Int) (w : World) (hv : IsInts .i64 w v0) (hv1 : IsInts .u8 w v1) (hf : (Lit.int .u8 f).wf = true) :
    Calls Try.prog 4 #[v0, v1, .int .u8 f] w fun e w' => e = .returned (.bool true) ∧ Below w.heap.size w w' := fhlower_any step4_c v0 v1 f w hv hv1 hf
end Go.Proofs.Ytmhackiiiehlmaa
