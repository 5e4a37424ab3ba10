/- Walk of the iterator over a sparse array's blocks. -/
import Derived.Test.YtjnefgmoobbniaaBaSp2
import Derived.Deep.QuietTactic
import Derived.BigQuiet
namespace Go.Proofs.Ytjnefgmoobbniaa
set_option linter.unusedVariables false
open Go.RowKit Bam

def ItAt (w : World) (q p : Nat) (i : Int) : Prop := Blk w q 148 #[.int .i64 i, .pointer (some ⟨p, 0, none⟩)]

theorem newiter_any (p : Nat) (w : World) :
    Calls Try.prog 111 #[.pointer (some ⟨p, 0, none⟩)] w fun e w' => e = .returned (.pointer (some ⟨w.heap.size, 0, none⟩)) ∧ ItAt w' w.heap.size p (-1) ∧ Below w.heap.size w w' := by
  go_enter Try.func111, Try.ntmps111
  go_wp2_with fail
  go_ret
  exact ⟨rfl, Blk.new w _ _, (Below.refl _ _).alloc (Nat.le_refl _) _⟩
theorem blocks_sp (p : Nat) (w : World) :
    Calls Try.prog 97 #[.pointer (some ⟨p, 0, none⟩)] w fun e w' => e = .returned (.iface 140 (.pointer (some ⟨w.heap.size, 0, none⟩))) ∧ ItAt w' w.heap.size p (-1) ∧ Below w.heap.size w w' := by
  go_enter Try.func97, Try.ntmps97
  go_wp2_with fail
  refine (newiter_any p w).mono ?_
  rintro e w1 ⟨rfl, h1, h2⟩
  have H1 := Lib.hid h1
  have H2 := Lib.hid h2
  clear h1 h2
  go_wp2_with fail
  go_ret
  exact ⟨rfl, H1.out, H2.out⟩

set_option maxHeartbeats 1000000 in
theorem next_sp (q p : Nat) (F : List Nat) (ps : Ps) (I : Int) (j : Nat) (w : World) (h : SpAt w p F ps) (hq : ItAt w q p I) (hI : I + 1 = (j : Int)) (hj : j ≤ 100000) (hn : ps.length ≤ 100000) :
    Calls Try.prog 129 #[.pointer (some ⟨q, 0, none⟩)] w fun e w' => e = .returned (.bool (decide (j < ps.length))) ∧ ∃ nq, w' = (w.setCell ⟨q, 0, none⟩ (.int .i64 (j : Int))).drewN nq := by
  obtain ⟨a1, c1, a2, c2, hb, hb1, hu, hF⟩ := h
  have c0 : w.cell? ⟨q, 0, none⟩ = some (.int .i64 I) := hq.cell 0 rfl
  have f0 : w.frozen? ⟨q, 0, none⟩ = false := hq.free 0
  have hne : p ≠ q := fun e => by
    subst e
    have h1 : Blk w p _ _ := hb
    have h2 : Blk w p _ _ := hq
    unfold Blk at h1 h2
    rw [h1] at h2
    simp at h2
  have hq2 := hq.set 0 (.int .i64 (j : Int))
  have hp2 := hb.other (a := ⟨q, 0, none⟩) hne (.int .i64 (j : Int))
  have d0 : (w.setCell ⟨q, 0, none⟩ (.int .i64 (j : Int))).cell? ⟨q, 0, none⟩ = some (.int .i64 (j : Int)) := hq2.cell 0 rfl
  have d1 : (w.setCell ⟨q, 0, none⟩ (.int .i64 (j : Int))).cell? ⟨q, 1, none⟩ = some (.pointer (some ⟨p, 0, none⟩)) := hq2.cell 1 rfl
  have d2 : (w.setCell ⟨q, 0, none⟩ (.int .i64 (j : Int))).cell? ⟨p, 1, none⟩ = some (.slice a2 ps.length c2) := hp2.cell 1 rfl
  have hIw : IntKind.i64.wrap (I + 1) = (j : Int) := by rw [hI, IntWalk.i64_in _ (by omega)]
  have hI1 : -1 ≤ I := by omega
  have hI2 : I ≤ 100000 := by omega
  have HI := Lib.hid hI
  clear hb hb1 hu hF hq hq2 hp2 hI
  go_enter Try.func129, Try.ntmps129
  go_wp2_with fail
  try rw [hIw]
  go_quiet (fail)
  go_wp2_with fail
  go_ret
  exact ⟨ret_bool (by rw [Bool.eq_iff_iff]), _, rfl⟩

set_option maxHeartbeats 1000000 in
theorem value_sp (q p : Nat) (F : List Nat) (ps : Ps) (i : Nat) (w : World) (h : SpAt w p F ps) (hq : ItAt w q p (i : Int)) (hi : i < ps.length) (hn : ps.length ≤ 100000) :
    Calls Try.prog 130 #[.pointer (some ⟨q, 0, none⟩)] w fun e w' => e = .returned (.tuple #[.int .u64 (((ps.getD i (0, 0)).1 : Nat) : Int), .int .u64 (((ps.getD i (0, 0)).2 : Nat) : Int)]) ∧ ∃ nq, w' = w.drewN nq := by
  obtain ⟨a1, c1, a2, c2, h0, h1, hcells, hU, hW⟩ := h.cells
  obtain ⟨g1, g2, rfl, rfl, hcl⟩ := hcells (by omega)
  obtain ⟨k1, k2⟩ := hcl i hi
  have c0 : w.cell? ⟨q, 0, none⟩ = some (.int .i64 (i : Int)) := hq.cell 0 rfl
  have c1' : w.cell? ⟨q, 1, none⟩ = some (.pointer (some ⟨p, 0, none⟩)) := hq.cell 1 rfl
  obtain ⟨n, hN⟩ : ∃ n, n = ps.length := ⟨_, rfl⟩
  rw [← hN] at h0 h1 hi hn
  obtain ⟨X, hX⟩ : ∃ X, (ps.getD i (0, 0)).1 = X := ⟨_, rfl⟩
  obtain ⟨Y, hY⟩ : ∃ Y, (ps.getD i (0, 0)).2 = Y := ⟨_, rfl⟩
  rw [hX] at k2 ⊢
  rw [hY] at k1 ⊢
  have e1 : (i : Int) < (n : Int) := by omega
  have e2 : (0 : Int) ≤ (i : Int) := by omega
  clear hcells hU hW hcl h hq hX hY hN
  go_enter Try.func130, Try.ntmps130
  go_wp2_with fail
  go_quiet (fail)
  go_wp2_with fail
  go_ret2
  exact ⟨rfl, _, rfl⟩
end Go.Proofs.Ytjnefgmoobbniaa
