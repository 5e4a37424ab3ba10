/- Walk of spec's Step: the first element. -/
import Derived.Test.YtepjailijekepaaDoorPqStepSpecB
namespace Go.Proofs.YtepjailijekepaaDoor
set_option linter.unusedVariables false
open Go.RowKit
open Pqm

set_option maxRecDepth 100000 in
set_option maxHeartbeats 2000000 in
theorem sp3 (qa ta sa : Option Addr) (qn qc tc sn sc : Nat) (dup is : Bool) (n N E : Int) (Q : List It) (x : It) (w : World) (hq : Rw 2 w (.slice qa qn qc) (pits Q)) (ht : Rw 2 w (.slice ta 1 tc) (pits [x])) (hQ : Q ≠ []) (hx : x ∈ Q) (hmin : ∀ y ∈ Q, x.1 ≤ y.1) (h9 : Q.length ≤ 100000) :
    Calls Tryd.prog 10 #[.agg #[.slice qa qn qc, .bool dup, .bool false], .agg #[.int .i64 3, .int .i64 n, .slice sa sn sc], .agg #[.slice ta 1 tc, .int .i64 N, .bool is, .int .i64 E]] w fun e w' =>
      e = .returned (.tuple #[.agg #[.slice qa qn qc, .bool dup, .bool false], .bool true]) ∧ Below w.heap.size w w' := by
  have HQ := Lib.hid hq
  have H9 := Lib.hid h9
  have HX := Lib.hid hx
  have HMI := Lib.hid hmin
  have hqn := hq.some
  rw [pits_len] at hqn
  have hqn9 : qn ≤ 100000 := by omega
  have hqn0 : qn ≠ 0 := by
    intro e
    exact hQ (List.eq_nil_of_length_eq_zero (by omega))
  have hqe : ((qn : Int) == 0) = false := by simp; omega
  have htn := ht.some
  obtain ⟨tb, to, rfl⟩ := htn.2.2.2 (by omega)
  have htc : 1 ≤ tc := htn.2.1
  obtain ⟨x1, x2⟩ := x
  have hp := ht.pit 0 x1 x2 (by simp) rfl
  simp only [Nat.zero_mul, Nat.add_zero] at hp
  have HP := Lib.hid hp
  clear hq ht h9 hqn htn hQ hqn0 hx hmin hp
  go_enter Tryd.func10, Tryd.ntmps10
  go_wp2_with fail
  have hW : Below w.heap.size w ((((w.alloc (.cells #[.slice qa qn qc, .bool dup, .bool false] 37)).alloc (.cells #[.int .i64 3, .int .i64 n, .slice sa sn sc] 24)).alloc (.cells #[.slice (some ⟨tb, to, none⟩) 1 tc, .int .i64 N, .bool is, .int .i64 E] 33)).alloc (.cells #[.slice none 0 0, .bool false, .bool false] 37)) := ((((Below.refl _ _).alloc (Nat.le_refl _) _).alloc (by simp) _).alloc (by simp; omega) _).alloc (by simp; omega) _
  have b0 := (((Blk.new w 37 #[.slice qa qn qc, .bool dup, .bool false]).alloc (.cells #[.int .i64 3, .int .i64 n, .slice sa sn sc] 24)).alloc (.cells #[.slice (some ⟨tb, to, none⟩) 1 tc, .int .i64 N, .bool is, .int .i64 E] 33)).alloc (.cells #[.slice none 0 0, .bool false, .bool false] 37)
  have b2 := (Blk.new ((w.alloc (.cells #[.slice qa qn qc, .bool dup, .bool false] 37)).alloc (.cells #[.int .i64 3, .int .i64 n, .slice sa sn sc] 24)) 33 #[.slice (some ⟨tb, to, none⟩) 1 tc, .int .i64 N, .bool is, .int .i64 E]).alloc (.cells #[.slice none 0 0, .bool false, .bool false] 37)
  have b3 := Blk.new (((w.alloc (.cells #[.slice qa qn qc, .bool dup, .bool false] 37)).alloc (.cells #[.int .i64 3, .int .i64 n, .slice sa sn sc] 24)).alloc (.cells #[.slice (some ⟨tb, to, none⟩) 1 tc, .int .i64 N, .bool is, .int .i64 E] 33)) 37 #[.slice none 0 0, .bool false, .bool false]
  simp at b2 b3
  obtain ⟨w1, hw1⟩ : ∃ w1, ((((w.alloc (.cells #[.slice qa qn qc, .bool dup, .bool false] 37)).alloc (.cells #[.int .i64 3, .int .i64 n, .slice sa sn sc] 24)).alloc (.cells #[.slice (some ⟨tb, to, none⟩) 1 tc, .int .i64 N, .bool is, .int .i64 E] 33)).alloc (.cells #[.slice none 0 0, .bool false, .bool false] 37)) = w1 := ⟨_, rfl⟩
  rw [hw1] at hW b0 b2 b3 ⊢
  have hp0 := (hW.cell (World.block_lt_of_cell? w _ HP.out.1)).trans HP.out.1
  have hp1 := (hW.cell (World.block_lt_of_cell? w _ HP.out.2)).trans HP.out.2
  have HP1 := Lib.hid hp0
  have htb : tb < w.heap.size := World.block_lt_of_cell? w _ HP.out.1
  have HP2 := Lib.hid hp1
  have HQ1 := Lib.hid (HQ.out.below rfl hW)
  have HW := Lib.hid hW
  have B0 := Lib.hid b0
  have B2 := Lib.hid b2
  have B3 := Lib.hid b3
  have x0 : w1.cell? ⟨w.heap.size, 0, none⟩ = some (.slice qa qn qc) := b0.cell 0 rfl
  have x1' : w1.cell? ⟨w.heap.size, 1, none⟩ = some (.bool dup) := b0.cell 1 rfl
  have x2' : w1.cell? ⟨w.heap.size, 2, none⟩ = some (.bool false) := b0.cell 2 rfl
  have y0 : w1.cell? ⟨w.heap.size + 1 + 1, 0, none⟩ = some (.slice (some ⟨tb, to, none⟩) 1 tc) := b2.cell 0 rfl
  have z0 : w1.cell? ⟨w.heap.size + 1 + 1 + 1, 0, none⟩ = some (.slice none 0 0) := b3.cell 0 rfl
  have z1 : w1.cell? ⟨w.heap.size + 1 + 1 + 1, 1, none⟩ = some (.bool false) := b3.cell 1 rfl
  have z2 : w1.cell? ⟨w.heap.size + 1 + 1 + 1, 2, none⟩ = some (.bool false) := b3.cell 2 rfl
  have f0 := b3.free 0
  have f1 := b3.free 1
  have f2 := b3.free 2
  clear hw1 hW b0 b2 b3
  go_wp2_with fail
  go_region_held3 (fun w' => w'.cell? ⟨w.heap.size, 0, none⟩ = some (.slice qa qn qc) ∧ w'.cell? ⟨w.heap.size, 1, none⟩ = some (.bool dup) ∧ w'.cell? ⟨w.heap.size, 2, none⟩ = some (.bool false) ∧ w'.cell? ⟨w.heap.size + 1 + 1, 0, none⟩ = some (.slice (some ⟨tb, to, none⟩) 1 tc) ∧ w'.cell? ⟨tb, to, none⟩ = some (.int .i64 x1) ∧ w'.cell? ⟨tb, to + 1, none⟩ = some (.int .i64 x2))
    ((first | exact ⟨by assumption, by assumption, by assumption, by assumption, by assumption, by assumption⟩ | (go_keep; done) | (refine ⟨?_, ?_, ?_, ?_, ?_, ?_⟩ <;> (refine set_keep (set_keep (set_keep ?_ ?_) ?_) ?_ <;> first | assumption | (simp only []; omega) | (intro e; simp only at e; omega)))))
    ((go_at_call 14; (with_reducible refine Calls.mono (pqleast_any Q (x1, x2) (.slice qa qn qc) _ ?_ H9.out HX.out HMI.out) ?_); exact (HQ1.out.below rfl (by (repeat (first | with_reducible exact Below.refl _ _ | with_reducible refine Below.drew ?_)))); rintro e w2 ⟨rfl, hb2⟩; have hb3 : Below w1.heap.size w1 w2 := Below.trans (by (repeat (first | with_reducible exact Below.refl _ _ | with_reducible refine Below.drew ?_))) hb2; have h0 := B0.out.below hb3 B0.out.lt; have h2 := B2.out.below hb3 B2.out.lt; have h3 := B3.out.below hb3 B3.out.lt; have HB2 := Lib.hid hb3; have H3 := Lib.hid h3; have v0 : w2.cell? ⟨w.heap.size, 0, none⟩ = some (.slice qa qn qc) := h0.cell 0 rfl; have v1 : w2.cell? ⟨w.heap.size, 1, none⟩ = some (.bool dup) := h0.cell 1 rfl; have v2 : w2.cell? ⟨w.heap.size, 2, none⟩ = some (.bool false) := h0.cell 2 rfl; have v3 : w2.cell? ⟨w.heap.size + 1 + 1, 0, none⟩ = some (.slice (some ⟨tb, to, none⟩) 1 tc) := h2.cell 0 rfl; have v4 : w2.cell? ⟨tb, to, none⟩ = some (.int .i64 x1) := (hb3.cell (World.block_lt_of_cell? w1 _ HP1.out)).trans HP1.out; have v5 : w2.cell? ⟨tb, to + 1, none⟩ = some (.int .i64 x2) := (hb3.cell (World.block_lt_of_cell? w1 _ HP2.out)).trans HP2.out; have u0 : w2.cell? ⟨w.heap.size + 1 + 1 + 1, 0, none⟩ = some (.slice none 0 0) := h3.cell 0 rfl; have u1 : w2.cell? ⟨w.heap.size + 1 + 1 + 1, 1, none⟩ = some (.bool false) := h3.cell 1 rfl; have u2 : w2.cell? ⟨w.heap.size + 1 + 1 + 1, 2, none⟩ = some (.bool false) := h3.cell 2 rfl; have g0 := h3.free 0; have g1 := h3.free 1; have g2 := h3.free 2; clear hb2 hb3 h0 h2 h3))
  all_goals
    go_wp2_with fail
    have hB := st3_blk H3.out rfl (.slice qa qn qc) (.bool dup) (.bool false)
    have c0 := hB.cell 0 rfl
    have c1 := hB.cell 1 rfl
    have c2 := hB.cell 2 rfl
    refine bodyPost_ret (v := .tuple #[.agg #[.slice qa qn qc, .bool dup, .bool false], .bool true]) (by simp [results, Tryd.results10, go_sem, c0, c1, c2]) rfl ⟨rfl, ?_⟩
    have hb := HW.out.trans (HB2.out.mono HW.out.size)
    exact ((hb.setCell (by simp only []; omega) _).setCell (by simp only []; omega) _).setCell (by simp only []; omega) _
end Go.Proofs.YtepjailijekepaaDoor
