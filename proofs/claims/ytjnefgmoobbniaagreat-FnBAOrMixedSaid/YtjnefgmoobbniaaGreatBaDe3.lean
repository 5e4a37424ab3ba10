/- Walk of SetBit at a dense array (printed by gen_ba_de3.py). -/
import Derived.Test.YtjnefgmoobbniaaGreatBaDe2
import Derived.StillTailTactics
namespace Go.Proofs.YtjnefgmoobbniaaGreat
set_option linter.unusedVariables false
open Go.RowKit Bam

/-- a word of a dense array is written -/
theorem DeAt.word {w : World} {p g c lo hi : Nat} {any : Bool} {W : List Nat} {n : Nat} (hn : n = W.length) (h1 : Blk w p 90 #[.slice (some ⟨g, 0, none⟩) n c, .int .u64 (lo : Int), .int .u64 (hi : Int), .bool any]) (h2 : Ue 74 w (.slice (some ⟨g, 0, none⟩) n c) W) (i x : Nat) :
    DeAt (w.setCell ⟨g, i, none⟩ (.int .u64 (x : Int))) p (p :: obl (.slice (some ⟨g, 0, none⟩) n c)) (W.set i x) lo hi any ∧ Fr [g] [g] w (w.setCell ⟨g, i, none⟩ (.int .u64 (x : Int))) := by
  subst hn
  have hpg : p ≠ g := fun e => row_blk h2 h1 (by decide) (by rw [e]; rfl)
  have hst := World.ownsRow.stored (Ue.to h2 rfl : w.ownsRow 0 _ 1 _ W.length _) i (.int .u64 (x : Int))
  rw [u64s_set] at hst
  have hf := Fr.of_grown_same hst.2
  refine ⟨⟨some ⟨g, 0, none⟩, c, ?_, ?_, ?_⟩, hf⟩
  · rw [List.length_set]; exact h1.other (a := ⟨g, i, none⟩) hpg _
  · rw [List.length_set]; exact Ue.of hst.1
  · rw [List.length_set]
/-- fields of a dense array are written -/
theorem Ue.field {w : World} {p : Nat} {cs : Array Value} {v : Value} {W : List Nat} (h1 : Blk w p 90 cs) (h2 : Ue 74 w v W) (o : Nat) (u : Value) : Ue 74 (w.setCell ⟨p, o, none⟩ u) v W :=
  (fr_store_other w p o u).own h2 (fun k hk => by rw [List.mem_singleton]; intro e; exact row_blk h2 h1 (by decide) (by rw [e, mem_obl] at hk; exact hk))
theorem DeAt.drewN {w : World} {p : Nat} {F W : List Nat} {lo hi : Nat} {any : Bool} (h : DeAt w p F W lo hi any) (n : Nat) : DeAt (w.drewN n) p F W lo hi any := h

set_option maxRecDepth 100000 in
set_option maxHeartbeats 1000000 in
theorem setde_none (p : Nat) (F W : List Nat) (lo hi : Nat) (k : Nat) (w : World) (h : DeAt w p F W lo hi false) (hok : W64 W) (hn : W.length ≤ 100000) (hk : k < 64 * W.length) :
    Calls Tryz.prog 66 #[.pointer (some ⟨p, 0, none⟩), .int .u64 (k : Int)] w fun e w' => e = .returned .nilIface ∧ DeAt w' p F (dSet W k) k k true ∧ Fr F F w w' := by
  have hcap := capacity_de p F W lo hi _ w h (by omega)
  obtain ⟨a, c, h1, h2, rfl⟩ := h
  obtain ⟨n, hN⟩ : ∃ n, W.length = n := ⟨_, rfl⟩
  obtain ⟨i, hi0⟩ : ∃ i, k / 64 = i := ⟨_, rfl⟩
  obtain ⟨j, hj0⟩ : ∃ j, k % 64 = j := ⟨_, rfl⟩
  have hj : j < 64 := by omega
  have hir := idxrem_any k (by omega)
  rw [hi0, hj0] at hir
  unfold dSet
  rw [hi0, hj0]
  rw [hN] at h1 h2 hn hk hcap ⊢
  have hin : i < n := by omega
  obtain ⟨C, hC⟩ : ∃ C, 64 * n = C := ⟨_, rfl⟩
  rw [hC] at hcap
  have t0 : decide (C ≤ k) = false := by rw [decide_eq_false_iff_not]; omega
  have hga : ∃ g, a = some ⟨g, 0, none⟩ := by
    rcases h2.cases with ⟨e, e2⟩ | ⟨g, cap, e, _⟩
    · rw [e2] at hN; simp at hN; omega
    · injection e with e; exact ⟨g, e⟩
  obtain ⟨g, rfl⟩ := hga
  have hwi : W.getD i 0 < 18446744073709551616 := getD_lt hok i
  obtain ⟨X, hX⟩ : ∃ X, W.getD i 0 = X := ⟨_, rfl⟩
  rw [hX] at hwi ⊢
  have hcell : w.cell? ⟨g, i, none⟩ = some (.int .u64 (X : Int)) := by
    rcases h2.cases with ⟨e, e2⟩ | ⟨g', cap, e, _, _, _, hc⟩
    · cases e
    · injection e with e; injection e with e; injection e with e
      subst e
      have := hc i (by rw [hN]; exact hin)
      rw [hX] at this; exact this
  have hpg : p ≠ g := fun e => row_blk h2 h1 (by decide) (by rw [e]; rfl)
  have k3 := h1.cell 3 rfl
  have k1 := h1.cell 1 rfl
  have k2 := h1.cell 2 rfl
  have f1 := h1.free 1
  have f2 := h1.free 2
  have f3 := h1.free 3
  have HB0 := Lib.hid h1
  have HW0 := Lib.hid h2
  have HN := Lib.hid hN
  have HIR := Lib.hid hir
  have HCAP := Lib.hid hcap
  have HC := Lib.hid hcell
  have HPG := Lib.hid hpg
  clear h1 h2 hN hi0 hj0 hir hcap hC hX hcell hok hpg
  go_enter Tryz.func66, Tryz.ntmps66
  go_wp2_with fail
  refine HCAP.out.mono ?_
  rintro e w' ⟨rfl, rfl⟩
  go_wp2_with fail
  have hB1 : Blk (((w.setCell ⟨p, 1, none⟩ (.int .u64 (k : Int))).setCell ⟨p, 2, none⟩ (.int .u64 (k : Int))).setCell ⟨p, 3, none⟩ (.bool true)) p 90 #[.slice (some ⟨g, 0, none⟩) n c, .int .u64 ((k : Nat) : Int), .int .u64 ((k : Nat) : Int), .bool true] := (((HB0.out.set 1 (.int .u64 (k : Int))).set 2 (.int .u64 (k : Int))).set 3 (.bool true))
  have hU1 : Ue 74 (((w.setCell ⟨p, 1, none⟩ (.int .u64 (k : Int))).setCell ⟨p, 2, none⟩ (.int .u64 (k : Int))).setCell ⟨p, 3, none⟩ (.bool true)) (.slice (some ⟨g, 0, none⟩) n c) W := (Ue.field ((HB0.out.set 1 (.int .u64 (k : Int))).set 2 (.int .u64 (k : Int))) (Ue.field (HB0.out.set 1 (.int .u64 (k : Int))) (Ue.field HB0.out HW0.out 1 (.int .u64 (k : Int))) 2 (.int .u64 (k : Int))) 3 (.bool true))
  have hF1 : Fr [p] [p] w (((w.setCell ⟨p, 1, none⟩ (.int .u64 (k : Int))).setCell ⟨p, 2, none⟩ (.int .u64 (k : Int))).setCell ⟨p, 3, none⟩ (.bool true)) := ((((Fr.refl [p] w).trans (fr_store_other _ p 1 (.int .u64 (k : Int)))).trans (fr_store_other _ p 2 (.int .u64 (k : Int)))).trans (fr_store_other _ p 3 (.bool true)))
  have hc1 := hF1.cell HC.out (by rw [List.mem_singleton]; exact fun e => HPG.out e.symm)
  obtain ⟨w1, hw1⟩ : ∃ w1, (((w.setCell ⟨p, 1, none⟩ (.int .u64 (k : Int))).setCell ⟨p, 2, none⟩ (.int .u64 (k : Int))).setCell ⟨p, 3, none⟩ (.bool true)) = w1 := ⟨_, rfl⟩
  rw [hw1] at hB1 hU1 hF1 hc1 ⊢
  have hfz : w1.frozen? ⟨g, i, none⟩ = false := World.ownsRow.frozenAt (hU1.to (n := n) HN.out.symm) i
  have d0 : w1.cell? ⟨p, 0, none⟩ = some (.slice (some ⟨g, 0, none⟩) n c) := hB1.cell 0 rfl
  have hst := DeAt.word HN.out.symm hB1 hU1 i (X ||| 2 ^ j)
  have HST := Lib.hid hst
  have HF1 := Lib.hid hF1
  have i1 : (i : Int) < (n : Int) := by omega
  have i2 : (0 : Int) ≤ (i : Int) := by omega
  clear hB1 hU1 hF1 hw1 hst k1 k2 k3 f1 f2 f3 t0
  refine (HIR.out _).mono ?_
  rintro e w' ⟨rfl, rfl⟩
  go_wp2_with fail
  refine wp_region_still_tail 14 (by kernel_rfl) (by kernel_rfl) ?_
  simp only [List.take_succ_cons, List.take_zero, List.drop_succ_cons, List.drop_zero]
  repeat still_step
  still_call ((binsert_any X j hwi hj _).mono fun _ _ h => ⟨h.1, h.2.symm⟩)
  repeat still_step
  refine wpStill_nil ?_
  change wpList _ _ _ _ _ w1.drew
  go_wp2_with fail
  go_ret
  have hs := HST.out
  exact ⟨rfl, hs.1.drewN 1, ((Fr.weaken (G := p :: obl (.slice (some ⟨g, 0, none⟩) n c)) (G' := p :: obl (.slice (some ⟨g, 0, none⟩) n c)) HF1.out (fun x hx => by rw [List.mem_singleton.1 hx]; exact List.mem_cons_self) (fun x hx => .inr hx)).trans (Fr.weaken (G := p :: obl (.slice (some ⟨g, 0, none⟩) n c)) (G' := p :: obl (.slice (some ⟨g, 0, none⟩) n c)) hs.2 (fun x hx => by rw [List.mem_singleton.1 hx, obl_some]; simp) (fun x hx => .inr hx))).drew⟩

set_option maxRecDepth 100000 in
set_option maxHeartbeats 1000000 in
theorem setde_low (p : Nat) (F W : List Nat) (lo hi : Nat) (k : Nat) (w : World) (h : DeAt w p F W lo hi true) (hok : W64 W) (hn : W.length ≤ 100000) (hk : k < 64 * W.length) (hlo : k < lo) :
    Calls Tryz.prog 66 #[.pointer (some ⟨p, 0, none⟩), .int .u64 (k : Int)] w fun e w' => e = .returned .nilIface ∧ DeAt w' p F (dSet W k) k hi true ∧ Fr F F w w' := by
  have hcap := capacity_de p F W lo hi _ w h (by omega)
  obtain ⟨a, c, h1, h2, rfl⟩ := h
  obtain ⟨n, hN⟩ : ∃ n, W.length = n := ⟨_, rfl⟩
  obtain ⟨i, hi0⟩ : ∃ i, k / 64 = i := ⟨_, rfl⟩
  obtain ⟨j, hj0⟩ : ∃ j, k % 64 = j := ⟨_, rfl⟩
  have hj : j < 64 := by omega
  have hir := idxrem_any k (by omega)
  rw [hi0, hj0] at hir
  unfold dSet
  rw [hi0, hj0]
  rw [hN] at h1 h2 hn hk hcap ⊢
  have hin : i < n := by omega
  obtain ⟨C, hC⟩ : ∃ C, 64 * n = C := ⟨_, rfl⟩
  rw [hC] at hcap
  have t0 : decide (C ≤ k) = false := by rw [decide_eq_false_iff_not]; omega
  have t1 : decide (k < lo) = true := by rw [decide_eq_true_iff]; exact hlo
  clear hlo
  have hga : ∃ g, a = some ⟨g, 0, none⟩ := by
    rcases h2.cases with ⟨e, e2⟩ | ⟨g, cap, e, _⟩
    · rw [e2] at hN; simp at hN; omega
    · injection e with e; exact ⟨g, e⟩
  obtain ⟨g, rfl⟩ := hga
  have hwi : W.getD i 0 < 18446744073709551616 := getD_lt hok i
  obtain ⟨X, hX⟩ : ∃ X, W.getD i 0 = X := ⟨_, rfl⟩
  rw [hX] at hwi ⊢
  have hcell : w.cell? ⟨g, i, none⟩ = some (.int .u64 (X : Int)) := by
    rcases h2.cases with ⟨e, e2⟩ | ⟨g', cap, e, _, _, _, hc⟩
    · cases e
    · injection e with e; injection e with e; injection e with e
      subst e
      have := hc i (by rw [hN]; exact hin)
      rw [hX] at this; exact this
  have hpg : p ≠ g := fun e => row_blk h2 h1 (by decide) (by rw [e]; rfl)
  have k3 := h1.cell 3 rfl
  have k1 := h1.cell 1 rfl
  have k2 := h1.cell 2 rfl
  have f1 := h1.free 1
  have f2 := h1.free 2
  have f3 := h1.free 3
  have HB0 := Lib.hid h1
  have HW0 := Lib.hid h2
  have HN := Lib.hid hN
  have HIR := Lib.hid hir
  have HCAP := Lib.hid hcap
  have HC := Lib.hid hcell
  have HPG := Lib.hid hpg
  clear h1 h2 hN hi0 hj0 hir hcap hC hX hcell hok hpg
  go_enter Tryz.func66, Tryz.ntmps66
  go_wp2_with fail
  refine HCAP.out.mono ?_
  rintro e w' ⟨rfl, rfl⟩
  go_wp2_with fail
  have hB1 : Blk (w.setCell ⟨p, 1, none⟩ (.int .u64 (k : Int))) p 90 #[.slice (some ⟨g, 0, none⟩) n c, .int .u64 ((k : Nat) : Int), .int .u64 ((hi : Nat) : Int), .bool true] := (HB0.out.set 1 (.int .u64 (k : Int)))
  have hU1 : Ue 74 (w.setCell ⟨p, 1, none⟩ (.int .u64 (k : Int))) (.slice (some ⟨g, 0, none⟩) n c) W := (Ue.field HB0.out HW0.out 1 (.int .u64 (k : Int)))
  have hF1 : Fr [p] [p] w (w.setCell ⟨p, 1, none⟩ (.int .u64 (k : Int))) := ((Fr.refl [p] w).trans (fr_store_other _ p 1 (.int .u64 (k : Int))))
  have hc1 := hF1.cell HC.out (by rw [List.mem_singleton]; exact fun e => HPG.out e.symm)
  obtain ⟨w1, hw1⟩ : ∃ w1, (w.setCell ⟨p, 1, none⟩ (.int .u64 (k : Int))) = w1 := ⟨_, rfl⟩
  rw [hw1] at hB1 hU1 hF1 hc1 ⊢
  have hfz : w1.frozen? ⟨g, i, none⟩ = false := World.ownsRow.frozenAt (hU1.to (n := n) HN.out.symm) i
  have d0 : w1.cell? ⟨p, 0, none⟩ = some (.slice (some ⟨g, 0, none⟩) n c) := hB1.cell 0 rfl
  have hst := DeAt.word HN.out.symm hB1 hU1 i (X ||| 2 ^ j)
  have HST := Lib.hid hst
  have HF1 := Lib.hid hF1
  have i1 : (i : Int) < (n : Int) := by omega
  have i2 : (0 : Int) ≤ (i : Int) := by omega
  clear hB1 hU1 hF1 hw1 hst k1 k2 k3 f1 f2 f3 t0
  refine (HIR.out _).mono ?_
  rintro e w' ⟨rfl, rfl⟩
  go_wp2_with fail
  refine wp_region_still_tail 14 (by kernel_rfl) (by kernel_rfl) ?_
  simp only [List.take_succ_cons, List.take_zero, List.drop_succ_cons, List.drop_zero]
  repeat still_step
  still_call ((binsert_any X j hwi hj _).mono fun _ _ h => ⟨h.1, h.2.symm⟩)
  repeat still_step
  refine wpStill_nil ?_
  change wpList _ _ _ _ _ w1.drew
  go_wp2_with fail
  go_ret
  have hs := HST.out
  exact ⟨rfl, hs.1.drewN 1, ((Fr.weaken (G := p :: obl (.slice (some ⟨g, 0, none⟩) n c)) (G' := p :: obl (.slice (some ⟨g, 0, none⟩) n c)) HF1.out (fun x hx => by rw [List.mem_singleton.1 hx]; exact List.mem_cons_self) (fun x hx => .inr hx)).trans (Fr.weaken (G := p :: obl (.slice (some ⟨g, 0, none⟩) n c)) (G' := p :: obl (.slice (some ⟨g, 0, none⟩) n c)) hs.2 (fun x hx => by rw [List.mem_singleton.1 hx, obl_some]; simp) (fun x hx => .inr hx))).drew⟩

set_option maxRecDepth 100000 in
set_option maxHeartbeats 1000000 in
theorem setde_high (p : Nat) (F W : List Nat) (lo hi : Nat) (k : Nat) (w : World) (h : DeAt w p F W lo hi true) (hok : W64 W) (hn : W.length ≤ 100000) (hk : k < 64 * W.length) (hlo : ¬ k < lo) (hhi : hi < k) :
    Calls Tryz.prog 66 #[.pointer (some ⟨p, 0, none⟩), .int .u64 (k : Int)] w fun e w' => e = .returned .nilIface ∧ DeAt w' p F (dSet W k) lo k true ∧ Fr F F w w' := by
  have hcap := capacity_de p F W lo hi _ w h (by omega)
  obtain ⟨a, c, h1, h2, rfl⟩ := h
  obtain ⟨n, hN⟩ : ∃ n, W.length = n := ⟨_, rfl⟩
  obtain ⟨i, hi0⟩ : ∃ i, k / 64 = i := ⟨_, rfl⟩
  obtain ⟨j, hj0⟩ : ∃ j, k % 64 = j := ⟨_, rfl⟩
  have hj : j < 64 := by omega
  have hir := idxrem_any k (by omega)
  rw [hi0, hj0] at hir
  unfold dSet
  rw [hi0, hj0]
  rw [hN] at h1 h2 hn hk hcap ⊢
  have hin : i < n := by omega
  obtain ⟨C, hC⟩ : ∃ C, 64 * n = C := ⟨_, rfl⟩
  rw [hC] at hcap
  have t0 : decide (C ≤ k) = false := by rw [decide_eq_false_iff_not]; omega
  have t1 : decide (k < lo) = false := by rw [decide_eq_false_iff_not]; exact hlo
  have t2 : decide (hi < k) = true := by rw [decide_eq_true_iff]; exact hhi
  clear hlo hhi
  have hga : ∃ g, a = some ⟨g, 0, none⟩ := by
    rcases h2.cases with ⟨e, e2⟩ | ⟨g, cap, e, _⟩
    · rw [e2] at hN; simp at hN; omega
    · injection e with e; exact ⟨g, e⟩
  obtain ⟨g, rfl⟩ := hga
  have hwi : W.getD i 0 < 18446744073709551616 := getD_lt hok i
  obtain ⟨X, hX⟩ : ∃ X, W.getD i 0 = X := ⟨_, rfl⟩
  rw [hX] at hwi ⊢
  have hcell : w.cell? ⟨g, i, none⟩ = some (.int .u64 (X : Int)) := by
    rcases h2.cases with ⟨e, e2⟩ | ⟨g', cap, e, _, _, _, hc⟩
    · cases e
    · injection e with e; injection e with e; injection e with e
      subst e
      have := hc i (by rw [hN]; exact hin)
      rw [hX] at this; exact this
  have hpg : p ≠ g := fun e => row_blk h2 h1 (by decide) (by rw [e]; rfl)
  have k3 := h1.cell 3 rfl
  have k1 := h1.cell 1 rfl
  have k2 := h1.cell 2 rfl
  have f1 := h1.free 1
  have f2 := h1.free 2
  have f3 := h1.free 3
  have HB0 := Lib.hid h1
  have HW0 := Lib.hid h2
  have HN := Lib.hid hN
  have HIR := Lib.hid hir
  have HCAP := Lib.hid hcap
  have HC := Lib.hid hcell
  have HPG := Lib.hid hpg
  clear h1 h2 hN hi0 hj0 hir hcap hC hX hcell hok hpg
  go_enter Tryz.func66, Tryz.ntmps66
  go_wp2_with fail
  refine HCAP.out.mono ?_
  rintro e w' ⟨rfl, rfl⟩
  go_wp2_with fail
  have hB1 : Blk (w.setCell ⟨p, 2, none⟩ (.int .u64 (k : Int))) p 90 #[.slice (some ⟨g, 0, none⟩) n c, .int .u64 ((lo : Nat) : Int), .int .u64 ((k : Nat) : Int), .bool true] := (HB0.out.set 2 (.int .u64 (k : Int)))
  have hU1 : Ue 74 (w.setCell ⟨p, 2, none⟩ (.int .u64 (k : Int))) (.slice (some ⟨g, 0, none⟩) n c) W := (Ue.field HB0.out HW0.out 2 (.int .u64 (k : Int)))
  have hF1 : Fr [p] [p] w (w.setCell ⟨p, 2, none⟩ (.int .u64 (k : Int))) := ((Fr.refl [p] w).trans (fr_store_other _ p 2 (.int .u64 (k : Int))))
  have hc1 := hF1.cell HC.out (by rw [List.mem_singleton]; exact fun e => HPG.out e.symm)
  obtain ⟨w1, hw1⟩ : ∃ w1, (w.setCell ⟨p, 2, none⟩ (.int .u64 (k : Int))) = w1 := ⟨_, rfl⟩
  rw [hw1] at hB1 hU1 hF1 hc1 ⊢
  have hfz : w1.frozen? ⟨g, i, none⟩ = false := World.ownsRow.frozenAt (hU1.to (n := n) HN.out.symm) i
  have d0 : w1.cell? ⟨p, 0, none⟩ = some (.slice (some ⟨g, 0, none⟩) n c) := hB1.cell 0 rfl
  have hst := DeAt.word HN.out.symm hB1 hU1 i (X ||| 2 ^ j)
  have HST := Lib.hid hst
  have HF1 := Lib.hid hF1
  have i1 : (i : Int) < (n : Int) := by omega
  have i2 : (0 : Int) ≤ (i : Int) := by omega
  clear hB1 hU1 hF1 hw1 hst k1 k2 k3 f1 f2 f3 t0
  refine (HIR.out _).mono ?_
  rintro e w' ⟨rfl, rfl⟩
  go_wp2_with fail
  refine wp_region_still_tail 14 (by kernel_rfl) (by kernel_rfl) ?_
  simp only [List.take_succ_cons, List.take_zero, List.drop_succ_cons, List.drop_zero]
  repeat still_step
  still_call ((binsert_any X j hwi hj _).mono fun _ _ h => ⟨h.1, h.2.symm⟩)
  repeat still_step
  refine wpStill_nil ?_
  change wpList _ _ _ _ _ w1.drew
  go_wp2_with fail
  go_ret
  have hs := HST.out
  exact ⟨rfl, hs.1.drewN 1, ((Fr.weaken (G := p :: obl (.slice (some ⟨g, 0, none⟩) n c)) (G' := p :: obl (.slice (some ⟨g, 0, none⟩) n c)) HF1.out (fun x hx => by rw [List.mem_singleton.1 hx]; exact List.mem_cons_self) (fun x hx => .inr hx)).trans (Fr.weaken (G := p :: obl (.slice (some ⟨g, 0, none⟩) n c)) (G' := p :: obl (.slice (some ⟨g, 0, none⟩) n c)) hs.2 (fun x hx => by rw [List.mem_singleton.1 hx, obl_some]; simp) (fun x hx => .inr hx))).drew⟩

set_option maxRecDepth 100000 in
set_option maxHeartbeats 1000000 in
theorem setde_mid (p : Nat) (F W : List Nat) (lo hi : Nat) (k : Nat) (w : World) (h : DeAt w p F W lo hi true) (hok : W64 W) (hn : W.length ≤ 100000) (hk : k < 64 * W.length) (hlo : ¬ k < lo) (hhi : ¬ hi < k) :
    Calls Tryz.prog 66 #[.pointer (some ⟨p, 0, none⟩), .int .u64 (k : Int)] w fun e w' => e = .returned .nilIface ∧ DeAt w' p F (dSet W k) lo hi true ∧ Fr F F w w' := by
  have hcap := capacity_de p F W lo hi _ w h (by omega)
  obtain ⟨a, c, h1, h2, rfl⟩ := h
  obtain ⟨n, hN⟩ : ∃ n, W.length = n := ⟨_, rfl⟩
  obtain ⟨i, hi0⟩ : ∃ i, k / 64 = i := ⟨_, rfl⟩
  obtain ⟨j, hj0⟩ : ∃ j, k % 64 = j := ⟨_, rfl⟩
  have hj : j < 64 := by omega
  have hir := idxrem_any k (by omega)
  rw [hi0, hj0] at hir
  unfold dSet
  rw [hi0, hj0]
  rw [hN] at h1 h2 hn hk hcap ⊢
  have hin : i < n := by omega
  obtain ⟨C, hC⟩ : ∃ C, 64 * n = C := ⟨_, rfl⟩
  rw [hC] at hcap
  have t0 : decide (C ≤ k) = false := by rw [decide_eq_false_iff_not]; omega
  have t1 : decide (k < lo) = false := by rw [decide_eq_false_iff_not]; exact hlo
  have t2 : decide (hi < k) = false := by rw [decide_eq_false_iff_not]; exact hhi
  clear hlo hhi
  have hga : ∃ g, a = some ⟨g, 0, none⟩ := by
    rcases h2.cases with ⟨e, e2⟩ | ⟨g, cap, e, _⟩
    · rw [e2] at hN; simp at hN; omega
    · injection e with e; exact ⟨g, e⟩
  obtain ⟨g, rfl⟩ := hga
  have hwi : W.getD i 0 < 18446744073709551616 := getD_lt hok i
  obtain ⟨X, hX⟩ : ∃ X, W.getD i 0 = X := ⟨_, rfl⟩
  rw [hX] at hwi ⊢
  have hcell : w.cell? ⟨g, i, none⟩ = some (.int .u64 (X : Int)) := by
    rcases h2.cases with ⟨e, e2⟩ | ⟨g', cap, e, _, _, _, hc⟩
    · cases e
    · injection e with e; injection e with e; injection e with e
      subst e
      have := hc i (by rw [hN]; exact hin)
      rw [hX] at this; exact this
  have hpg : p ≠ g := fun e => row_blk h2 h1 (by decide) (by rw [e]; rfl)
  have k3 := h1.cell 3 rfl
  have k1 := h1.cell 1 rfl
  have k2 := h1.cell 2 rfl
  have f1 := h1.free 1
  have f2 := h1.free 2
  have f3 := h1.free 3
  have HB0 := Lib.hid h1
  have HW0 := Lib.hid h2
  have HN := Lib.hid hN
  have HIR := Lib.hid hir
  have HCAP := Lib.hid hcap
  have HC := Lib.hid hcell
  have HPG := Lib.hid hpg
  clear h1 h2 hN hi0 hj0 hir hcap hC hX hcell hok hpg
  go_enter Tryz.func66, Tryz.ntmps66
  go_wp2_with fail
  refine HCAP.out.mono ?_
  rintro e w' ⟨rfl, rfl⟩
  go_wp2_with fail
  have hB1 : Blk w p 90 #[.slice (some ⟨g, 0, none⟩) n c, .int .u64 ((lo : Nat) : Int), .int .u64 ((hi : Nat) : Int), .bool true] := HB0.out
  have hU1 : Ue 74 w (.slice (some ⟨g, 0, none⟩) n c) W := HW0.out
  have hF1 : Fr [p] [p] w w := (Fr.refl [p] w)
  have hc1 := hF1.cell HC.out (by rw [List.mem_singleton]; exact fun e => HPG.out e.symm)
  have hfz : w.frozen? ⟨g, i, none⟩ = false := World.ownsRow.frozenAt (hU1.to (n := n) HN.out.symm) i
  have d0 : w.cell? ⟨p, 0, none⟩ = some (.slice (some ⟨g, 0, none⟩) n c) := hB1.cell 0 rfl
  have hst := DeAt.word HN.out.symm hB1 hU1 i (X ||| 2 ^ j)
  have HST := Lib.hid hst
  have HF1 := Lib.hid hF1
  have i1 : (i : Int) < (n : Int) := by omega
  have i2 : (0 : Int) ≤ (i : Int) := by omega
  clear hB1 hU1 hF1 hst k1 k2 k3 f1 f2 f3 t0
  refine (HIR.out _).mono ?_
  rintro e w' ⟨rfl, rfl⟩
  go_wp2_with fail
  refine wp_region_still_tail 14 (by kernel_rfl) (by kernel_rfl) ?_
  simp only [List.take_succ_cons, List.take_zero, List.drop_succ_cons, List.drop_zero]
  repeat still_step
  still_call ((binsert_any X j hwi hj _).mono fun _ _ h => ⟨h.1, h.2.symm⟩)
  repeat still_step
  refine wpStill_nil ?_
  change wpList _ _ _ _ _ w.drew
  go_wp2_with fail
  go_ret
  have hs := HST.out
  exact ⟨rfl, hs.1.drewN 1, ((Fr.weaken (G := p :: obl (.slice (some ⟨g, 0, none⟩) n c)) (G' := p :: obl (.slice (some ⟨g, 0, none⟩) n c)) HF1.out (fun x hx => by rw [List.mem_singleton.1 hx]; exact List.mem_cons_self) (fun x hx => .inr hx)).trans (Fr.weaken (G := p :: obl (.slice (some ⟨g, 0, none⟩) n c)) (G' := p :: obl (.slice (some ⟨g, 0, none⟩) n c)) hs.2 (fun x hx => by rw [List.mem_singleton.1 hx, obl_some]; simp) (fun x hx => .inr hx))).drew⟩

theorem setbit_de (p : Nat) (F W : List Nat) (k : Nat) (w : World) (h : DeW w p F W) (hok : W64 W) (hn : W.length ≤ 100000) (hk : k < 64 * W.length) :
    Calls Tryz.prog 66 #[.pointer (some ⟨p, 0, none⟩), .int .u64 (k : Int)] w fun e w' => e = .returned .nilIface ∧ DeW w' p F (dSet W k) ∧ Fr F F w w' := by
  unfold DeW at h ⊢
  rw [any_set hok hk, lo_set hok hk, hi_set hok hk]
  cases ha : anyW W with
  | false =>
    rw [ha] at h
    simp only [Bool.false_eq_true, if_false]
    exact setde_none p F W _ _ k w h hok hn hk
  | true =>
    rw [ha] at h
    simp only [if_true]
    by_cases hl : k < loW W
    · have hlh := lo_le_hi hok ha
      rw [if_pos hl, if_neg (by omega)]
      exact setde_low p F W _ _ k w h hok hn hk hl
    · rw [if_neg hl]
      by_cases hh : hiW W < k
      · rw [if_pos hh]; exact setde_high p F W _ _ k w h hok hn hk hl hh
      · rw [if_neg hh]; exact setde_mid p F W _ _ k w h hok hn hk hl hh
end Go.Proofs.YtjnefgmoobbniaaGreat
