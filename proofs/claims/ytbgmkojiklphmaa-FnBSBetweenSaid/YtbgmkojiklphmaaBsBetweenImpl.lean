/- The walk of impl.BSOnesBetween. -/
import Derived.Test.YtbgmkojiklphmaaBsBetween
namespace Go.Proofs.Ytbgmkojiklphmaa
set_option linter.unusedVariables false
open Go.RowKit

theorem between_any (B p L f t : Nat) (ws : List Nat) (cap : Nat) (w : World) (hb : Bs B w p L ws cap) (hwl : ws.length = (L + 63) / 64) (hL : L ≤ 10000) (hf : f ≤ 10000) (ht : t ≤ 10000) :
    Calls Try.prog 75 #[.pointer (some ⟨p, 0, none⟩), .int .u64 (f : Int), .int .u64 (t : Int)] w
      fun e w' => e = .returned (.int .u64 (Bsm.cnt (Bsm.bit ws) f (min t L - f) : Nat)) ∧ ∃ m, w' = w.drewN m := by
  by_cases h : t ≤ L
  · rw [Nat.min_eq_left h]
    by_cases h2 : f < t
    · by_cases h3 : f / 64 = t / 64
      · exact between_one_lo B p L f t ws cap w hb hwl hL ht h h2 h3
      · exact between_two_lo B p L f t ws cap w hb hwl hL ht h h2 (by omega)
    · exact between_none_lo B p L f t ws cap w hb hwl hL ht h (by omega) hf
  · rw [Nat.min_eq_right (by omega)]
    by_cases h2 : f < L
    · by_cases h3 : f / 64 = L / 64
      · exact between_one_hi B p L f t ws cap w hb hwl hL ht (by omega) h2 h3
      · exact between_two_hi B p L f t ws cap w hb hwl hL ht (by omega) h2 (by omega)
    · exact between_none_hi B p L f t ws cap w hb hwl hL ht (by omega) (by omega) hf

set_option maxRecDepth 100000 in
set_option maxHeartbeats 400000 in
theorem bsbetween_any (v : Value) (bs : List Bool) (f t : Nat) (F T : Int) (hF : F = f) (hT : T = t) (w : World) (hv : IsBits w v bs) (hn : bs.length ≤ 400) (hf : f ≤ 1000) (ht : t ≤ 1000) :
    Calls Try.prog 46 #[v, .int .u64 F, .int .u64 T] w fun e w' => e = .returned (.int .u64 (Bsm.cnt (fun j => bs.getD j false) f (t - f) : Nat)) ∧ Below w.heap.size w w' := by
  subst hF
  subst hT
  have hv0 := hv
  obtain ⟨s, rfl, hs⟩ := hv
  obtain ⟨a, n, cap, rfl, _⟩ := hs
  have hb0 : Below w.heap.size w (w.alloc (.cells #[.int .u64 (bs.length : Int), .slice a n cap] 25)) := (Below.refl _ _).alloc (Nat.le_refl _) _
  have HV := Lib.hid (hv0.below rfl hb0)
  have HB0 := Lib.hid hb0
  clear hv0 hb0
  go_enter Try.func46, Try.ntmps46
  go_wp2_with fail
  refine (set64_any _ bs _ HV.out (by omega)).mono ?_
  rintro e w1 ⟨p, ws, rfl, hbs, hwl, hbit, hb1⟩
  have HBIT := Lib.hid hbit
  have HBS := Lib.hid hbs
  have HWL := Lib.hid hwl
  clear hbit hbs hwl
  go_wp2_with fail
  refine (between_any _ p bs.length f t ws _ _ HBS.out HWL.out (by omega) (by omega) (by omega)).mono ?_
  rintro e w2 ⟨rfl, m, rfl⟩
  have HR : Hid (Bsm.cnt (Bsm.bit ws) f (min t bs.length - f) = Bsm.cnt (fun j => bs.getD j false) f (t - f)) := by
    show _ = _
    rw [Bsm.cnt_more (fun j => bs.getD j false) f (min t bs.length - f) (t - f) (by omega) (fun j h1 h2 => Bsm.getD_out bs _ (by omega))]
    exact Bsm.cnt_congr _ _ _ _ _ (fun j _ => HBIT.out _)
  go_wp2_with fail
  go_ret
  exact ⟨ret_int (by rw [HR.out]), below_drewN (HB0.out.trans (hb1.mono (by simp))) m⟩
end Go.Proofs.Ytbgmkojiklphmaa
