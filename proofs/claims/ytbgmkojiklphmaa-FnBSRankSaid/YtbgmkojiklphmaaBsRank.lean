/- The walk of impl.BSRank. -/
import Derived.Test.YtbgmkojiklphmaaBsCount
import Derived.Test.YtbgmkojiklphmaaBsFlip
namespace Go.Proofs.Ytbgmkojiklphmaa
set_option linter.unusedVariables false
open Go.RowKit

set_option maxRecDepth 100000 in
set_option maxHeartbeats 400000 in
theorem bsrank_any (v : Value) (bs : List Bool) (i : Nat) (I : Int) (hI : I = i) (w : World) (hv : IsBits w v bs) (hn : bs.length ≤ 400) (hi : i < 1000) :
    Calls Try.prog 31 #[v, .int .u64 I] w fun e w' => e = .returned (.int .u64 (Bsm.cnt (fun j => bs.getD j false) 0 (i + 1) : Nat)) ∧ Below w.heap.size w w' := by
  subst hI
  have hv0 := hv
  obtain ⟨s, rfl, hs⟩ := hv
  obtain ⟨a, n, cap, rfl, _⟩ := hs
  have hb0 : Below w.heap.size w (w.alloc (.cells #[.int .u64 (bs.length : Int), .slice a n cap] 25)) := (Below.refl _ _).alloc (Nat.le_refl _) _
  have HV := Lib.hid (hv0.below rfl hb0)
  have HB0 := Lib.hid hb0
  clear hv0 hb0
  go_enter Try.func31, Try.ntmps31
  go_wp2_with fail
  refine (set64_any _ bs _ HV.out (by omega)).mono ?_
  rintro e w1 ⟨p, ws, rfl, hbs, hwl, hbit, hb1⟩
  have HBIT := Lib.hid hbit
  have HBS := Lib.hid hbs
  have HWL := Lib.hid hwl
  clear hbit hbs hwl
  go_wp2_with fail
  refine (rank_any _ p bs.length i ws _ _ HBS.out (by rw [HWL.out]; omega) (by omega)).mono ?_
  rintro e w2 ⟨rfl, m, rfl⟩
  have HR : Hid (Bsm.cnt (Bsm.bit ws) 0 (i + 1) = Bsm.cnt (fun j => bs.getD j false) 0 (i + 1)) := Bsm.cnt_congr _ _ _ _ _ (fun j _ => HBIT.out _)
  go_wp2_with fail
  go_ret
  exact ⟨ret_int (by rw [HR.out]), below_drewN (HB0.out.trans (hb1.mono (by simp))) m⟩
end Go.Proofs.Ytbgmkojiklphmaa
