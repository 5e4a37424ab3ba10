/- Walks of BitSet's Set and Flip at any place. -/
import Derived.Test.YtbcbkieebelleaaBsExt
namespace Go.Proofs.Ytbcbkieebelleaa
set_option linter.unusedVariables false
open Go.RowKit

set_option maxRecDepth 100000 in
set_option maxHeartbeats 1000000 in
theorem set_out (B p L i : Nat) (ws : List Nat) (w : World) (hb : Bs B w p L ws ws.length) (hwl : ws.length = (L + 63) / 64) (hi : L ≤ i) (hi2 : i ≤ 10000) (hBw : B ≤ w.heap.size) :
    Calls Try.prog 57 #[.pointer (some ⟨p, 0, none⟩), .int .u64 (i : Int)] w fun e w' => e = .returned (.pointer (some ⟨p, 0, none⟩)) ∧
      ∃ ws' cap', Bs B w' p (i + 1) ws' cap' ∧ i + 1 ≤ 64 * ws'.length ∧ (∀ j, Bsm.bit ws' j = (Bsm.bit ws j || decide (j = i))) ∧ Below B w w' := by
  have hb0 := hb
  obtain ⟨g0, h01, h02, h03, h04, h05⟩ := hb0
  have c0 : w.cell? ⟨p, 0, none⟩ = some (.int .u64 (L : Int)) := h03.cell 0 rfl
  have HB := Lib.hid hb
  clear h01 h02 h03 h04 h05 hb
  go_enter Try.func57, Try.ntmps57
  go_wp2_with fail
  refine (extend_any B p L i _ rfl ws _ HB.out hwl hi (by omega) hBw).mono ?_
  rintro e w1 ⟨rfl, ws1, cap1, hb1, hl1, hbit1, hbel1⟩
  obtain ⟨g, h1, h2, h3, h4, h5⟩ := hb1
  have d0 : w1.cell? ⟨p, 0, none⟩ = some (.int .u64 ((i + 1 : Nat) : Int)) := h3.cell 0 rfl
  have d1 : w1.cell? ⟨p, 1, none⟩ = some (.slice (some ⟨g, 0, none⟩) ws1.length cap1) := h3.cell 1 rfl
  obtain ⟨q, hq⟩ : ∃ q, i / 64 = q := ⟨_, rfl⟩
  have hq2 : q < ws1.length := by omega
  have hq3 : (i : Int) / 64 = (q : Int) := by omega
  have c2 := h4.cellAt q (by omega)
  rw [u64s_at ws1 q hq2] at c2
  have f2 := h4.frozenAt q
  have hX : ws1.getD q 0 < 18446744073709551616 := h5 _ (by simp [hq2])
  have hst := Bs.store h1 h2 h3 h4 h5 q (ws1.getD q 0 ||| 2 ^ (i % 64)) (or_lt _ i hX)
  have e1 : Bsm.orw ws1 i = ws1.set q (ws1.getD q 0 ||| 2 ^ (i % 64)) := by unfold Bsm.orw Bsm.upd; rw [hq]
  rw [← e1] at hst
  have hbitf : ∀ j, Bsm.bit (Bsm.orw ws1 i) j = (Bsm.bit ws j || decide (j = i)) := fun j => by rw [Bsm.bit_orw _ _ (by omega), hbit1]
  have hlenf : i + 1 ≤ 64 * (Bsm.orw ws1 i).length := by unfold Bsm.orw; rw [Bsm.upd_len]; omega
  obtain ⟨X, hXX⟩ : ∃ X, ws1.getD q 0 = X := ⟨_, rfl⟩
  rw [hXX] at c2 hX hst
  have HW := Lib.hid (or_word X i hX)
  have HST := Lib.hid hst
  have HBF := Lib.hid hbitf
  have HLF := Lib.hid hlenf
  clear hq h1 h2 h3 h4 h5 hX hst e1 hXX hbitf hlenf hbit1 hl1 hwl
  go_wp2_with fail
  refine wp_region_still_tail 13 (by kernel_rfl) (by kernel_rfl) ?_
  simp only [List.take_succ_cons, List.take_zero, List.drop_succ_cons, List.drop_zero]
  repeat still_step
  still_call (windex_still i _ (by omega))
  repeat still_step
  refine wpStill_nil ?_
  change wpList _ _ _ _ _ (World.drew _)
  go_wp2_with fail
  go_ret
  refine ⟨rfl, ?_⟩
  rw [HW.out]
  exact ⟨_, _, HST.out.1.drewN 1, HLF.out, HBF.out, hbel1.trans HST.out.2.drew⟩

/-- Set, wherever the place is -/
theorem set_any (B p L i : Nat) (ws : List Nat) (w : World) (hb : Bs B w p L ws ws.length) (hwl : ws.length = (L + 63) / 64) (hL : L ≤ 10000) (hi2 : i ≤ 10000) (hBw : B ≤ w.heap.size) :
    Calls Try.prog 57 #[.pointer (some ⟨p, 0, none⟩), .int .u64 (i : Int)] w fun e w' => e = .returned (.pointer (some ⟨p, 0, none⟩)) ∧
      ∃ ws' cap', Bs B w' p (max L (i + 1)) ws' cap' ∧ max L (i + 1) ≤ 64 * ws'.length ∧ (∀ j, Bsm.bit ws' j = (Bsm.bit ws j || decide (j = i))) ∧ Below B w w' := by
  by_cases hi : i < L
  · refine (set_in B p L i ws _ w hb hi (by omega) (by omega)).mono ?_
    rintro e w' ⟨rfl, h1, h2⟩
    rw [Nat.max_eq_left (by omega)]
    exact ⟨rfl, _, _, h1, by unfold Bsm.orw; rw [Bsm.upd_len]; omega, fun j => Bsm.bit_orw _ _ (by omega) j, h2⟩
  · rw [Nat.max_eq_right (by omega)]
    exact set_out B p L i ws w hb hwl (by omega) hi2 hBw

end Go.Proofs.Ytbcbkieebelleaa
