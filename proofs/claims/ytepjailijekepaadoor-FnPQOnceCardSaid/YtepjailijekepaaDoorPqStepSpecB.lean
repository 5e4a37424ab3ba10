/- Walk of spec's Step: the steps that call. -/
import Derived.Test.YtepjailijekepaaDoorPqStepSpec
namespace Go.Proofs.YtepjailijekepaaDoor
set_option linter.unusedVariables false
open Go.RowKit
open Pqm

theorem step_callw {P : Program} {w : World} {ops : Array Oper} {o : Oper} {a : Act} {K : Act → World → Prop} {Q : Exit → Act → World → Prop} {E : Prop} (f : FuncId) (x0 x1 : Operand) (ts : Array TypeId)
    (ho : o.op = .call { callee := .value (.func f), args := #[x0, x1], argTypes := ts }) (hwd : Region.wanted o (yielded ops a.tmps) = true) (hcf : ∀ (args : Array Value) (w : World), (callFunc f args).run P w = .ok (.enter f args) w) (v0 v1 : Value) (h0 : a.eval x0 = v0) (h1 : a.eval x1 = v1) {R : Ending → World → Prop} (hc : Calls P f #[v0, v1] w R)
    (hR : ∀ e w', R e w' → ∃ v, e = .returned v ∧ K (a.put o.dst v) w') :
    if Region.wanted o (yielded ops a.tmps) = true then Oper.wp P o a w K Q else E := by
  rw [if_pos hwd]
  unfold Oper.wp
  have hrun : (execOp a.eval o).run P w = .ok (.enter f #[v0, v1]) w := by
    simp [execOp, ho, resolve, invoke, Act.eval, Deferred.ofValue, hcf, ← h0, ← h1, Result.andThen]
  rw [hrun, Oper.upon_enter]
  exact hc.mono fun e w' h => by
    obtain ⟨v, rfl, hk⟩ := hR e w' h
    exact hk
theorem least_enter (args : Array Value) (w : World) : (callFunc 14 args).run Tryd.prog w = .ok (.enter 14 args) w := by kernel_rfl

theorem st3_blk {w : World} {r : Nat} {t : TypeId} {cs : Array Value} (h : Blk w r t cs) (hs : cs.size = 3) (x0 x1 x2 : Value) :
    Blk (((w.setCell ⟨r, 0, none⟩ x0).setCell ⟨r, 1, none⟩ x1).setCell ⟨r, 2, none⟩ x2) r t #[x0, x1, x2] := by
  obtain ⟨l⟩ := cs
  match l, hs with
  | [a, b, c], _ => simpa using ((h.set 0 x0).set 1 x1).set 2 x2
theorem rw_turn {w : World} {v : Value} {l : List It} {s0 s3 : Nat} {t0 t3 : TypeId} {c0 c3 : Array Value} (h : Rw 2 w v (pits l)) (h0 : Blk w s0 t0 c0) (n0 : ∀ (i : Nat) (x : Int), c0[i]? ≠ some (.int .i64 x)) (h3 : Blk w s3 t3 c3) (n3 : ∀ (i : Nat) (x : Int), c3[i]? ≠ some (.int .i64 x)) :
    ∀ w' : World, (∀ k, k ≠ s0 → k ≠ s3 → w'.heap[k]? = w.heap[k]?) → Rw 2 w' v (pits l) := by
  intro w' hk
  obtain ⟨a, n, cap, rfl, hn, hc, hm, hr⟩ := h
  refine ⟨a, n, cap, rfl, hn, hc, hm, fun hz => ?_⟩
  obtain ⟨b, off, rfl, hcell⟩ := hr hz
  refine ⟨b, off, rfl, fun i row hi j u hu => ?_⟩
  have h1 := hcell i row hi j u hu
  obtain ⟨x, _, hx⟩ := List.mem_map.1 (List.mem_of_getElem? hi)
  subst hx
  have hint : ∃ y, u = .int .i64 y := by
    match j, hu with
    | 0, hu => exact ⟨_, by simpa [pit] using hu.symm⟩
    | 1, hu => exact ⟨_, by simpa [pit] using hu.symm⟩
    | j + 2, hu => simp [pit] at hu
  obtain ⟨y, rfl⟩ := hint
  have hb0 : b ≠ s0 := by
    intro e
    subst e
    rw [cell_of_row w b _ c0 t0 (0, 0) h0] at h1
    exact n0 _ _ h1
  have hb3 : b ≠ s3 := by
    intro e
    subst e
    rw [cell_of_row w b _ c3 t3 (0, 0) h3] at h1
    exact n3 _ _ h1
  rw [← h1]
  exact World.cell?_of_block (hk b hb0 hb3)

set_option maxRecDepth 100000 in
set_option maxHeartbeats 2000000 in
theorem sp1 (qa ta sa : Option Addr) (qn qc tc sn sc : Nat) (dup is : Bool) (n N : Int) (Q L : List It) (w : World) (hq : Rw 2 w (.slice qa qn qc) (pits Q)) (hs : Rw 2 w (.slice sa sn sc) (pits L)) (h9 : Q.length + L.length ≤ 100000) :
    Calls Tryd.prog 10 #[.agg #[.slice qa qn qc, .bool dup, .bool false], .agg #[.int .i64 1, .int .i64 n, .slice sa sn sc], .agg #[.slice ta 0 tc, .int .i64 N, .bool is, .int .i64 0]] w fun e w' =>
      ∃ pa ca, e = .returned (.tuple #[.agg #[.slice pa (putAll dup Q L).length ca, .bool dup, .bool false], .bool true]) ∧ Rw 2 w' (.slice pa (putAll dup Q L).length ca) (pits (putAll dup Q L)) ∧ Below w.heap.size w w' := by
  have HQ := Lib.hid hq
  have HS := Lib.hid hs
  have H9 := Lib.hid h9
  clear hq hs h9
  go_enter Tryd.func10, Tryd.ntmps10
  go_wp2_with fail
  have hW : Below w.heap.size w ((((w.alloc (.cells #[.slice qa qn qc, .bool dup, .bool false] 37)).alloc (.cells #[.int .i64 1, .int .i64 n, .slice sa sn sc] 24)).alloc (.cells #[.slice ta 0 tc, .int .i64 N, .bool is, .int .i64 0] 33)).alloc (.cells #[.slice none 0 0, .bool false, .bool false] 37)) := ((((Below.refl _ _).alloc (Nat.le_refl _) _).alloc (by simp) _).alloc (by simp; omega) _).alloc (by simp; omega) _
  have b0 := (((Blk.new w 37 #[.slice qa qn qc, .bool dup, .bool false]).alloc (.cells #[.int .i64 1, .int .i64 n, .slice sa sn sc] 24)).alloc (.cells #[.slice ta 0 tc, .int .i64 N, .bool is, .int .i64 0] 33)).alloc (.cells #[.slice none 0 0, .bool false, .bool false] 37)
  have b2 := (Blk.new ((w.alloc (.cells #[.slice qa qn qc, .bool dup, .bool false] 37)).alloc (.cells #[.int .i64 1, .int .i64 n, .slice sa sn sc] 24)) 33 #[.slice ta 0 tc, .int .i64 N, .bool is, .int .i64 0]).alloc (.cells #[.slice none 0 0, .bool false, .bool false] 37)
  have b3 := Blk.new (((w.alloc (.cells #[.slice qa qn qc, .bool dup, .bool false] 37)).alloc (.cells #[.int .i64 1, .int .i64 n, .slice sa sn sc] 24)).alloc (.cells #[.slice ta 0 tc, .int .i64 N, .bool is, .int .i64 0] 33)) 37 #[.slice none 0 0, .bool false, .bool false]
  simp at b2 b3
  obtain ⟨w1, hw1⟩ : ∃ w1, ((((w.alloc (.cells #[.slice qa qn qc, .bool dup, .bool false] 37)).alloc (.cells #[.int .i64 1, .int .i64 n, .slice sa sn sc] 24)).alloc (.cells #[.slice ta 0 tc, .int .i64 N, .bool is, .int .i64 0] 33)).alloc (.cells #[.slice none 0 0, .bool false, .bool false] 37)) = w1 := ⟨_, rfl⟩
  rw [hw1] at hW b0 b2 b3 ⊢
  have HC := Lib.hid (pqput_any Q L dup _ _ w1 (HQ.out.below rfl hW) (HS.out.below rfl hW) H9.out)
  have HW := Lib.hid hW
  have B0 := Lib.hid b0
  have B2 := Lib.hid b2
  have B3 := Lib.hid b3
  clear hw1 hW b0 b2 b3
  refine HC.out.mono ?_
  rintro e w2 ⟨pa, ca, rfl, hrw, hb2⟩
  have h0 := B0.out.below hb2 B0.out.lt
  have h2 := B2.out.below hb2 B2.out.lt
  have h3 := B3.out.below hb2 B3.out.lt
  have HB2 := Lib.hid hb2
  have HRW := Lib.hid hrw
  have H3 := Lib.hid h3
  have X0 := Lib.hid h0
  have x0 : w2.cell? ⟨w.heap.size, 0, none⟩ = some (.slice qa qn qc) := h0.cell 0 rfl
  have x1 : w2.cell? ⟨w.heap.size, 1, none⟩ = some (.bool dup) := h0.cell 1 rfl
  have x2 : w2.cell? ⟨w.heap.size, 2, none⟩ = some (.bool false) := h0.cell 2 rfl
  have xf := h0.free 0
  have y3 : w2.cell? ⟨w.heap.size + 1 + 1, 3, none⟩ = some (.int .i64 0) := h2.cell 3 rfl
  have z0 : w2.cell? ⟨w.heap.size + 1 + 1 + 1, 0, none⟩ = some (.slice none 0 0) := h3.cell 0 rfl
  have z1 : w2.cell? ⟨w.heap.size + 1 + 1 + 1, 1, none⟩ = some (.bool false) := h3.cell 1 rfl
  have z2 : w2.cell? ⟨w.heap.size + 1 + 1 + 1, 2, none⟩ = some (.bool false) := h3.cell 2 rfl
  have f0 := h3.free 0
  have f1 := h3.free 1
  have f2 := h3.free 2
  clear hb2 hrw h0 h2 h3
  go_wp2_with fail
  go_region
  all_goals
    go_wp2_with fail
    have hr1 := rw_turn HRW.out X0.out (fun i x h => by match i, h with | 0, h => simp at h | 1, h => simp at h | 2, h => simp at h | i + 3, h => simp at h) H3.out (fun i x h => by match i, h with | 0, h => simp at h | 1, h => simp at h | 2, h => simp at h | i + 3, h => simp at h)
    have hB := (st3_blk (H3.out.other (a := ⟨w.heap.size, 0, none⟩) (by simp only []; omega) (.slice pa (putAll dup Q L).length ca)) rfl (.slice pa (putAll dup Q L).length ca) (.bool dup) (.bool false)).drew
    have c0 := hB.cell 0 rfl
    have c1 := hB.cell 1 rfl
    have c2 := hB.cell 2 rfl
    refine bodyPost_ret (v := .tuple #[.agg #[.slice pa (putAll dup Q L).length ca, .bool dup, .bool false], .bool true]) (by simp [results, Tryd.results10, go_sem, c0, c1, c2]) rfl ⟨pa, ca, rfl, ?_, ?_⟩
    · refine hr1 _ (fun k h1 h2 => ?_)
      first
        | exact ((((Below.heap_setCell _ _ _ k (by simpa using h2)).trans (Below.heap_setCell _ _ _ k (by simpa using h2))).trans (Below.heap_setCell _ _ _ k (by simpa using h2))).trans (Below.heap_setCell _ _ _ k (by simpa using h1)))
        | exact (((Below.heap_setCell _ _ _ k (by simpa using h2)).trans (Below.heap_setCell _ _ _ k (by simpa using h2))).trans (Below.heap_setCell _ _ _ k (by simpa using h2)))
    · have hb := HW.out.trans (HB2.out.mono HW.out.size)
      first
        | exact ((((hb.setCell (by simp) _).setCell (by simp; omega) _).setCell (by simp; omega) _).setCell (by simp; omega) _).drew
        | exact (((hb.setCell (by simp; omega) _).setCell (by simp; omega) _).setCell (by simp; omega) _).drew
set_option maxRecDepth 100000 in
set_option maxHeartbeats 2000000 in
theorem sp2 (qa ta sa : Option Addr) (qn qc tn tc sn sc : Nat) (dup is : Bool) (n N : Int) (Q G : List It) (w : World) (hq : Rw 2 w (.slice qa qn qc) (pits Q)) (ht : Rw 2 w (.slice ta tn tc) (pits G)) (hQ : Q ≠ []) (htk : TakesB Q G) (hlen : G.length = min n.toNat Q.length) (hn : 1 ≤ n) (hn2 : n ≤ 1000) (h9 : Q.length ≤ 100000) :
    Calls Tryd.prog 10 #[.agg #[.slice qa qn qc, .bool dup, .bool false], .agg #[.int .i64 2, .int .i64 n, .slice sa sn sc], .agg #[.slice ta tn tc, .int .i64 N, .bool is, .int .i64 0]] w fun e w' =>
      ∃ pa ca, e = .returned (.tuple #[.agg #[.slice pa (eraseAll Q G).length ca, .bool dup, .bool false], .bool true]) ∧ Rw 2 w' (.slice pa (eraseAll Q G).length ca) (pits (eraseAll Q G)) ∧ Below w.heap.size w w' := by
  have HQ := Lib.hid hq
  have HT := Lib.hid ht
  have H9 := Lib.hid h9
  have HTK := Lib.hid htk
  have HLE := Lib.hid hlen
  have hqn := hq.some
  rw [pits_len] at hqn
  have hqn9 : qn ≤ 100000 := by omega
  have hqn0 : qn ≠ 0 := by
    intro e
    exact hQ (List.eq_nil_of_length_eq_zero (by omega))
  have hqe : ((qn : Int) == 0) = false := by simp; omega
  have htn := ht.some
  rw [pits_len] at htn
  have htn9 : tn ≤ 100000 := by omega
  clear hq ht h9 htk hlen hqn htn hQ hqn0
  go_enter Tryd.func10, Tryd.ntmps10
  go_wp2_with fail
  have hW : Below w.heap.size w ((((w.alloc (.cells #[.slice qa qn qc, .bool dup, .bool false] 37)).alloc (.cells #[.int .i64 2, .int .i64 n, .slice sa sn sc] 24)).alloc (.cells #[.slice ta tn tc, .int .i64 N, .bool is, .int .i64 0] 33)).alloc (.cells #[.slice none 0 0, .bool false, .bool false] 37)) := ((((Below.refl _ _).alloc (Nat.le_refl _) _).alloc (by simp) _).alloc (by simp; omega) _).alloc (by simp; omega) _
  have b0 := (((Blk.new w 37 #[.slice qa qn qc, .bool dup, .bool false]).alloc (.cells #[.int .i64 2, .int .i64 n, .slice sa sn sc] 24)).alloc (.cells #[.slice ta tn tc, .int .i64 N, .bool is, .int .i64 0] 33)).alloc (.cells #[.slice none 0 0, .bool false, .bool false] 37)
  have b2 := (Blk.new ((w.alloc (.cells #[.slice qa qn qc, .bool dup, .bool false] 37)).alloc (.cells #[.int .i64 2, .int .i64 n, .slice sa sn sc] 24)) 33 #[.slice ta tn tc, .int .i64 N, .bool is, .int .i64 0]).alloc (.cells #[.slice none 0 0, .bool false, .bool false] 37)
  have b3 := Blk.new (((w.alloc (.cells #[.slice qa qn qc, .bool dup, .bool false] 37)).alloc (.cells #[.int .i64 2, .int .i64 n, .slice sa sn sc] 24)).alloc (.cells #[.slice ta tn tc, .int .i64 N, .bool is, .int .i64 0] 33)) 37 #[.slice none 0 0, .bool false, .bool false]
  simp at b2 b3
  obtain ⟨w1, hw1⟩ : ∃ w1, ((((w.alloc (.cells #[.slice qa qn qc, .bool dup, .bool false] 37)).alloc (.cells #[.int .i64 2, .int .i64 n, .slice sa sn sc] 24)).alloc (.cells #[.slice ta tn tc, .int .i64 N, .bool is, .int .i64 0] 33)).alloc (.cells #[.slice none 0 0, .bool false, .bool false] 37)) = w1 := ⟨_, rfl⟩
  rw [hw1] at hW b0 b2 b3 ⊢
  have HC := Lib.hid (pqtaken_any Q G n _ _ w1 (HQ.out.below rfl hW) (HT.out.below rfl hW) HTK.out HLE.out hn hn2 H9.out)
  have HW := Lib.hid hW
  have B0 := Lib.hid b0
  have B2 := Lib.hid b2
  have B3 := Lib.hid b3
  clear hw1 hW b0 b2 b3
  refine HC.out.mono ?_
  rintro e w2 ⟨pa, ca, rfl, hrw, hb2⟩
  have h0 := B0.out.below hb2 B0.out.lt
  have h2 := B2.out.below hb2 B2.out.lt
  have h3 := B3.out.below hb2 B3.out.lt
  have HB2 := Lib.hid hb2
  have HRW := Lib.hid hrw
  have H3 := Lib.hid h3
  have X0 := Lib.hid h0
  have x0 : w2.cell? ⟨w.heap.size, 0, none⟩ = some (.slice qa qn qc) := h0.cell 0 rfl
  have x1 : w2.cell? ⟨w.heap.size, 1, none⟩ = some (.bool dup) := h0.cell 1 rfl
  have x2 : w2.cell? ⟨w.heap.size, 2, none⟩ = some (.bool false) := h0.cell 2 rfl
  have xf := h0.free 0
  have y3 : w2.cell? ⟨w.heap.size + 1 + 1, 3, none⟩ = some (.int .i64 0) := h2.cell 3 rfl
  have z0 : w2.cell? ⟨w.heap.size + 1 + 1 + 1, 0, none⟩ = some (.slice none 0 0) := h3.cell 0 rfl
  have z1 : w2.cell? ⟨w.heap.size + 1 + 1 + 1, 1, none⟩ = some (.bool false) := h3.cell 1 rfl
  have z2 : w2.cell? ⟨w.heap.size + 1 + 1 + 1, 2, none⟩ = some (.bool false) := h3.cell 2 rfl
  have f0 := h3.free 0
  have f1 := h3.free 1
  have f2 := h3.free 2
  clear hb2 hrw h0 h2 h3
  go_wp2_with fail
  go_region
  all_goals
    go_wp2_with fail
    have hr1 := rw_turn HRW.out X0.out (fun i x h => by match i, h with | 0, h => simp at h | 1, h => simp at h | 2, h => simp at h | i + 3, h => simp at h) H3.out (fun i x h => by match i, h with | 0, h => simp at h | 1, h => simp at h | 2, h => simp at h | i + 3, h => simp at h)
    have hB := (st3_blk (H3.out.other (a := ⟨w.heap.size, 0, none⟩) (by simp only []; omega) (.slice pa (eraseAll Q G).length ca)) rfl (.slice pa (eraseAll Q G).length ca) (.bool dup) (.bool false)).drew
    have c0 := hB.cell 0 rfl
    have c1 := hB.cell 1 rfl
    have c2 := hB.cell 2 rfl
    refine bodyPost_ret (v := .tuple #[.agg #[.slice pa (eraseAll Q G).length ca, .bool dup, .bool false], .bool true]) (by simp [results, Tryd.results10, go_sem, c0, c1, c2]) rfl ⟨pa, ca, rfl, ?_, ?_⟩
    · refine hr1 _ (fun k h1 h2 => ?_)
      first
        | exact ((((Below.heap_setCell _ _ _ k (by simpa using h2)).trans (Below.heap_setCell _ _ _ k (by simpa using h2))).trans (Below.heap_setCell _ _ _ k (by simpa using h2))).trans (Below.heap_setCell _ _ _ k (by simpa using h1)))
        | exact (((Below.heap_setCell _ _ _ k (by simpa using h2)).trans (Below.heap_setCell _ _ _ k (by simpa using h2))).trans (Below.heap_setCell _ _ _ k (by simpa using h2)))
    · have hb := HW.out.trans (HB2.out.mono HW.out.size)
      first
        | exact ((((hb.setCell (by simp) _).setCell (by simp; omega) _).setCell (by simp; omega) _).setCell (by simp; omega) _).drew
        | exact (((hb.setCell (by simp; omega) _).setCell (by simp; omega) _).setCell (by simp; omega) _).drew
end Go.Proofs.YtepjailijekepaaDoor
