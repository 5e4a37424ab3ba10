/- Walk of a sparse array's ClearBit. -/
import Derived.Test.YtgifbdjifmoafaaGreatBaSp2
namespace Go.Proofs.YtgifbdjifmoafaaGreat
set_option linter.unusedVariables false
open Go.RowKit Bam

theorem cell_set_same {w : World} {b o : Nat} {u v : Value} (h : w.cell? ⟨b, o, none⟩ = some u) : (w.setCell ⟨b, o, none⟩ v).cell? ⟨b, o, none⟩ = some v := by
  exact World.cell?_setCell_same' w _ _ (by rw [h]; rfl)
theorem clear_none {ps : Ps} {k : Nat} (hc : ∀ q, ps[pos ps (k / 64)]? = some q → q.1 ≠ k / 64) : clearB ps k = ps := by
  unfold clearB
  cases hq : ps[pos ps (k / 64)]? with
  | none => rfl
  | some q => obtain ⟨i, b⟩ := q; simp only; rw [if_neg (hc _ hq)]
theorem clear_some {ps : Ps} {k b : Nat} (hq : ps[pos ps (k / 64)]? = some (k / 64, b)) : clearB ps k = if b ^^^ (b &&& 2 ^ (k % 64)) = 0 then ps.eraseIdx (pos ps (k / 64)) else ps.set (pos ps (k / 64)) (k / 64, b ^^^ (b &&& 2 ^ (k % 64))) := by
  unfold clearB
  rw [hq]
  simp only [if_true]

theorem eraseIdx_set {α : Type} (l : List α) (r : Nat) (x : α) : (l.set r x).eraseIdx r = l.eraseIdx r := by
  induction l generalizing r with
  | nil => rfl
  | cons y l ih =>
    cases r with
    | zero => rfl
    | succ r => simp only [List.set_cons_succ, List.eraseIdx_cons_succ, ih]
theorem map_eraseIdx {α β : Type} (f : α → β) (l : List α) (r : Nat) : (l.eraseIdx r).map f = (l.map f).eraseIdx r := by
  induction l generalizing r with
  | nil => rfl
  | cons y l ih =>
    cases r with
    | zero => rfl
    | succ r => simp only [List.eraseIdx_cons_succ, List.map_cons, ih]

set_option maxHeartbeats 400000 in
theorem clear_no (p : Nat) (F : List Nat) (ps : Ps) (k : Nat) (w : World) (h : SpAt w p F ps) (hok : Ok ps) (hn : ps.length ≤ 1000) (hk : k < 18446744073709551616) (hc : ∀ q, ps[pos ps (k / 64)]? = some q → q.1 ≠ k / 64) :
    Calls Tryz.prog 112 #[.pointer (some ⟨p, 0, none⟩), .int .u64 (k : Int)] w fun e w' => e = .returned .nilIface ∧ Below w.heap.size w w' := by
  obtain ⟨a1, c1, a2, c2, h0, h1, hcells, hU, hW⟩ := h.cells
  have hir := idxrem_any k hk w
  have hps := pos_sAt ps (k / 64)
  have hl : (ps.map Prod.fst).length = ps.length := List.length_map _
  have hg := uget_no _ _ (k / 64) w hU (by omega) hok.1 (fun y hy => by
    rw [← hps, List.getElem?_map] at hy
    cases hq : ps[pos ps (k / 64)]? with
    | none => rw [hq] at hy; cases hy
    | some q => rw [hq] at hy; injection hy with hy; rw [← hy]; exact hc q hq)
  have HG := Lib.hid hg
  have HIR := Lib.hid hir
  clear hg hir hU hW hcells hps hc hok h
  go_enter Tryz.func112, Tryz.ntmps112
  go_wp2_with fail
  refine HIR.out.mono ?_
  rintro e w0 ⟨rfl, rfl⟩
  go_wp2_with fail
  refine HG.out.mono ?_
  rintro e w1 ⟨rfl, hb⟩
  go_wp2_with fail
  go_ret
  exact ⟨rfl, hb⟩

set_option maxRecDepth 100000 in
set_option maxHeartbeats 2000000 in
theorem clear_yes (p : Nat) (F : List Nat) (ps : Ps) (k b : Nat) (w : World) (h : SpAt w p F ps) (hok : Ok ps) (hn : ps.length ≤ 1000) (hk : k < 18446744073709551616) (hq : ps[pos ps (k / 64)]? = some (k / 64, b)) :
    Calls Tryz.prog 112 #[.pointer (some ⟨p, 0, none⟩), .int .u64 (k : Int)] w fun e w' => e = .returned .nilIface ∧ ∃ F', SpAt w' p F' (clearB ps k) ∧ Fr F F' w w' := by
  rw [clear_some hq]
  obtain ⟨a1, c1, a2, c2, hB, hW, hU, rfl⟩ := h
  have hir := idxrem_any k hk w
  have hps := pos_sAt ps (k / 64)
  have hb64 : b < 18446744073709551616 := hok.2 _ (List.mem_of_getElem? hq)
  obtain ⟨r, hr⟩ : ∃ r, r = pos ps (k / 64) := ⟨_, rfl⟩
  rw [← hr] at hq hps ⊢
  obtain ⟨i, hi⟩ : ∃ i, i = k / 64 := ⟨_, rfl⟩
  obtain ⟨j, hj0⟩ : ∃ j, j = k % 64 := ⟨_, rfl⟩
  have hj : j < 64 := by rw [hj0]; exact Nat.mod_lt _ (by decide)
  rw [← hi] at hq hps hir ⊢
  rw [← hj0] at hir ⊢
  have hrl : r < ps.length := (List.getElem?_eq_some_iff.1 hq).1
  have hrg : ps[r]'hrl = (i, b) := (List.getElem?_eq_some_iff.1 hq).2
  have hl : (ps.map Prod.fst).length = ps.length := List.length_map _
  have hl2 : (ps.map Prod.snd).length = ps.length := List.length_map _
  have hg := uget_yes _ _ i r w hU (by omega) hok.1 hps.symm (by omega) (by rw [map_getD_fst ps r hrl, hrg])
  obtain ⟨n, hN⟩ : ∃ n, n = ps.length := ⟨_, rfl⟩
  obtain ⟨y, hy⟩ : ∃ y, y = b ^^^ (b &&& 2 ^ j) := ⟨_, rfl⟩
  have hy64 : y < 18446744073709551616 := by rw [hy]; exact nand_lt (show b < 2 ^ 64 from hb64)
  have hrm := fun w => bremove_any b j hb64 hj w
  rw [← hy] at hrm ⊢
  rw [← hN] at hg hB hW hU hn hrl hl hl2 ⊢
  have HG := Lib.hid hg
  have HIR := Lib.hid hir
  have HB := Lib.hid hB
  have HW := Lib.hid hW
  have HU := Lib.hid hU
  have HN := Lib.hid hN
  have HRM := Lib.hid hrm
  have HRL : Hid (r < ps.length) := Lib.hid (hN ▸ hrl)
  have HRG : Hid (ps[r]'HRL.out = (i, b)) := Lib.hid hrg
  have HL := Lib.hid hl
  have HL2 := Lib.hid hl2
  have hrn : (r : Int) < (n : Int) := by omega
  have hrn0 : (0 : Int) ≤ (r : Int) := by omega
  have hne : ((r : Int) == -1) = false := by rw [beq_eq_false_iff_ne]; omega
  obtain ⟨m, hm⟩ : ∃ m, n = m + 1 := ⟨n - 1, by omega⟩
  have HM := Lib.hid hm
  clear hg hir hU hW hB hps hok hr hq hb64 hN hi hj0 hrg hl hl2 hy hrm hm
  by_cases hz : y = 0
  · subst hz
    rw [if_pos rfl]
    go_enter Tryz.func112, Tryz.ntmps112
    go_wp2_with fail
    refine HIR.out.mono ?_
    rintro e w0 ⟨rfl, rfl⟩
    have c01 := HB.out.cell 1 rfl
    go_wp2_with fail
    refine HG.out.mono ?_
    rintro e w1 ⟨rfl, hb1⟩
    have hB1 := HB.out.below hb1 HB.out.lt
    have hW1 := HW.out.below hb1 rfl
    have hI1 := HU.out.below hb1 rfl
    have hgb : ∃ g1, a1 = some ⟨g1, 0, none⟩ := by
      rcases hW1.cases with ⟨e, e2⟩ | ⟨g, cap, e, _⟩
      · have := congrArg List.length e2; rw [HL2.out] at this; simp only [List.length_nil] at this; omega
      · injection e with e; exact ⟨g, e⟩
    obtain ⟨g1, rfl⟩ := hgb
    have hst := SpAt.word HN.out hB1 hW1 hI1 HRL.out 0
    rw [show (ps[r]'HRL.out).1 = i from by rw [HRG.out]] at hst
    have hwc : w1.cell? ⟨g1, r, none⟩ = some (.int .u64 (b : Int)) := by
      rcases hW1.cases with ⟨e, e2⟩ | ⟨g, cap, e, _, _, _, hcell⟩
      · cases e
      · injection e with e
        injection e with e
        injection e with e
        subst e
        have := hcell r (by rw [HL2.out]; exact hrl)
        rw [map_getD_snd ps r HRL.out, HRG.out] at this
        exact this
    have hwf : w1.frozen? ⟨g1, r, none⟩ = false := World.ownsRow.frozenAt (hW1.to (n := n) HL2.out.symm) r
    have c0 : w1.cell? ⟨p, 0, none⟩ = some (.slice (some ⟨g1, 0, none⟩) n c1) := hB1.cell 0 rfl
    have hpg : p ≠ g1 := fun e => row_blk hW1 hB1 (by decide) (by rw [e]; rfl)
    have HST := Lib.hid hst
    have HF := Lib.hid hb1
    have HB1 := Lib.hid hB1
    have HW1 := Lib.hid hW1
    clear hW1 hB1 hI1 hst hb1 c01
    go_wp2_with fail
    refine wp_region_still_tail 14 (by kernel_rfl) (by kernel_rfl) ?_
    simp only [List.take_succ_cons, List.take_zero, List.drop_succ_cons, List.drop_zero]
    repeat still_step
    still_call ((HRM.out _).mono fun _ _ h => ⟨h.1, h.2.symm⟩)
    repeat still_step
    refine wpStill_nil ?_
    change wpList _ _ _ _ _ w1.drew
    have c0d : w1.drew.cell? ⟨p, 0, none⟩ = some (.slice (some ⟨g1, 0, none⟩) n c1) := c0
    have hcw :  (w1.setCell ⟨g1, r, none⟩ (.int .u64 ((0 : Nat) : Int))).cell? ⟨g1, r, none⟩ = some (.int .u64 ((0 : Nat) : Int)) := cell_set_same hwc
    have hcp : (w1.setCell ⟨g1, r, none⟩ (.int .u64 ((0 : Nat) : Int))).cell? ⟨p, 0, none⟩ = some (.slice (some ⟨g1, 0, none⟩) n c1) := (HB1.out.other (a := ⟨g1, r, none⟩) hpg _).cell 0 rfl
    go_wp2_with fail
    obtain ⟨w3, hw3⟩ : ∃ w3, (w1.setCell ⟨g1, r, none⟩ (.int .u64 ((0 : Nat) : Int))).drew = w3 := ⟨_, rfl⟩
    have hs3 : SpAt w3 p (p :: (obl (.slice (some ⟨g1, 0, none⟩) n c1) ++ obl (.slice a2 n c2))) (ps.set r (i, 0)) := hw3 ▸ HST.out.1.drewN 1
    have hf3 : Fr [g1] [g1] w1 w3 := hw3 ▸ HST.out.2.drew
    have hB3 : Blk w3 p 111 #[.slice (some ⟨g1, 0, none⟩) n c1, .slice a2 n c2] := hw3 ▸ HB1.out.other (a := ⟨g1, r, none⟩) hpg _
    have hcw3 : w3.cell? ⟨g1, r, none⟩ = some (.int .u64 ((0 : Nat) : Int)) := hw3 ▸ hcw
    have hW3 : Ue 87 w3 (.slice (some ⟨g1, 0, none⟩) n c1) ((ps.map Prod.snd).set r 0) := by
      have h := World.ownsRow.stored (HW1.out.to (n := n) HL2.out.symm) r (.int .u64 ((0 : Nat) : Int))
      rw [u64s_set] at h
      exact hw3 ▸ Ue.of (row_drew h.1)
    have hU3 : Us w3 (.slice a2 n c2) (ps.map Prod.fst) := hf3.own (HU.out.below HF.out rfl) (fun k hk hk2 => row_row (HU.out.below HF.out rfl) HW1.out (by decide) k hk (by rw [obl_some]; exact hk2))
    have e0 : ((0 : Nat) : Int) = 0 := rfl
    rw [e0] at hw3
    rw [hw3]
    have hbd := bldelete_any p 0 _ _ _ n c1 _ r w3 hB3 rfl (by decide) hW3 (by rw [List.length_set, HL2.out]) (by omega) m HM.out hrl
    have HBD := Lib.hid hbd
    have HB3 := Lib.hid hB3
    have HU3 := Lib.hid hU3
    have HW3 := Lib.hid hW3
    have HF3 := Lib.hid ((Fr.of_below (p :: (obl (.slice (some ⟨g1, 0, none⟩) n c1) ++ obl (.slice a2 n c2))) HF.out).trans (Fr.weaken (G := p :: (obl (.slice (some ⟨g1, 0, none⟩) n c1) ++ obl (.slice a2 n c2))) (G' := p :: (obl (.slice (some ⟨g1, 0, none⟩) n c1) ++ obl (.slice a2 n c2))) hf3 (fun k hk => by rw [List.mem_singleton.1 hk, obl_some]; simp) (fun k hk => .inr hk)))
    clear hw3 hs3 hf3 hB3 hcw3 hW3 hU3 hbd c0 c0d hcw hcp hwc hwf
    refine HBD.out.mono ?_
    rintro e w4 ⟨rfl, g4, c4, e4, hW4, hB4, hF4⟩
    injection e4 with e4
    injection e4 with e4
    subst e4
    have hU4 : Us w4 (.slice a2 n c2) (ps.map Prod.fst) := hF4.own HU3.out (fun k hk hk2 => by
      rcases List.mem_cons.1 hk2 with e | e
      · rw [e, mem_obl] at hk; exact row_blk HU3.out HB3.out (by decide) hk
      · exact row_row HU3.out HW3.out (by decide) k hk e)
    have hB4' : Blk w4 p 111 #[.slice (some ⟨g1, 0, none⟩) m c4, .slice a2 n c2] := hB4
    have hud := udelete_any p 1 _ _ a2 n c2 _ r w4 hB4' rfl (by decide) hU4 HL.out.symm (by omega) m HM.out hrl
    have HUD := Lib.hid hud
    have HB4 := Lib.hid hB4'
    have HW4 := Lib.hid hW4
    have HU4 := Lib.hid hU4
    have HF4 := Lib.hid hF4
    clear hB4 hB4' hW4 hU4 hud hF4
    go_wp2_with fail
    refine HUD.out.mono ?_
    rintro e w5 ⟨rfl, g5, c5, e5, hU5, hB5, hF5⟩
    subst e5
    have hW5 : Ue 87 w5 (.slice (some ⟨g1, 0, none⟩) m c4) (((ps.map Prod.snd).set r 0).eraseIdx r) := hF5.own HW4.out (fun k hk hk2 => by
      rcases List.mem_cons.1 hk2 with e | e
      · rw [e, mem_obl] at hk; exact row_blk HW4.out HB4.out (by decide) hk
      · exact row_row HW4.out HU4.out (by decide) k hk e)
    have el : (ps.eraseIdx r).length = m := by rw [List.length_eraseIdx, if_pos HRL.out, ← HN.out, HM.out, Nat.add_sub_cancel]
    have hfin : SpAt w5 p (p :: (obl (.slice (some ⟨g1, 0, none⟩) m c4) ++ obl (.slice (some ⟨g5, 0, none⟩) m c5))) (ps.eraseIdx r) := by
      refine ⟨some ⟨g1, 0, none⟩, c4, some ⟨g5, 0, none⟩, c5, ?_, ?_, ?_, ?_⟩
      · rw [el]; exact hB5
      · rw [el, map_eraseIdx]; rw [eraseIdx_set] at hW5; exact hW5
      · rw [el, map_eraseIdx]; exact hU5
      · rw [el]
    have HFIN := Lib.hid hfin
    have HFF := Lib.hid (HF3.out.trans ((Fr.weaken (G := p :: (obl (.slice (some ⟨g1, 0, none⟩) n c1) ++ obl (.slice (some ⟨g5, 0, none⟩) n c2))) (G' := p :: (obl (.slice (some ⟨g1, 0, none⟩) m c4) ++ obl (.slice (some ⟨g5, 0, none⟩) n c2))) HF4.out (fun k hk => by
        rcases List.mem_cons.1 hk with e | e
        · exact e ▸ List.mem_cons_self
        · exact List.mem_cons_of_mem _ (List.mem_append.2 (.inl e))) (fun k hk => .inr hk)).trans (Fr.weaken (G := p :: (obl (.slice (some ⟨g1, 0, none⟩) m c4) ++ obl (.slice (some ⟨g5, 0, none⟩) n c2))) (G' := p :: (obl (.slice (some ⟨g1, 0, none⟩) m c4) ++ obl (.slice (some ⟨g5, 0, none⟩) m c5))) hF5 (fun k hk => by
        rcases List.mem_cons.1 hk with e | e
        · exact e ▸ List.mem_cons_self
        · exact List.mem_cons_of_mem _ (List.mem_append.2 (.inr e))) (fun k hk => .inr hk))))
    clear hW5 hB5 hU5 hF5 hfin el
    go_wp2_with fail
    go_ret
    exact ⟨rfl, _, HFIN.out, HFF.out⟩
  · rw [if_neg hz]
    have hyz : ((y : Int) == 0) = false := by rw [beq_eq_false_iff_ne]; omega
    clear hz
    go_enter Tryz.func112, Tryz.ntmps112
    go_wp2_with fail
    refine HIR.out.mono ?_
    rintro e w0 ⟨rfl, rfl⟩
    have c01 := HB.out.cell 1 rfl
    go_wp2_with fail
    refine HG.out.mono ?_
    rintro e w1 ⟨rfl, hb1⟩
    have hB1 := HB.out.below hb1 HB.out.lt
    have hW1 := HW.out.below hb1 rfl
    have hI1 := HU.out.below hb1 rfl
    have hgb : ∃ g1, a1 = some ⟨g1, 0, none⟩ := by
      rcases hW1.cases with ⟨e, e2⟩ | ⟨g, cap, e, _⟩
      · have := congrArg List.length e2; rw [HL2.out] at this; simp only [List.length_nil] at this; omega
      · injection e with e; exact ⟨g, e⟩
    obtain ⟨g1, rfl⟩ := hgb
    have hst := SpAt.word HN.out hB1 hW1 hI1 HRL.out y
    rw [show (ps[r]'HRL.out).1 = i from by rw [HRG.out]] at hst
    have hwc : w1.cell? ⟨g1, r, none⟩ = some (.int .u64 (b : Int)) := by
      rcases hW1.cases with ⟨e, e2⟩ | ⟨g, cap, e, _, _, _, hcell⟩
      · cases e
      · injection e with e
        injection e with e
        injection e with e
        subst e
        have := hcell r (by rw [HL2.out]; exact hrl)
        rw [map_getD_snd ps r HRL.out, HRG.out] at this
        exact this
    have hwf : w1.frozen? ⟨g1, r, none⟩ = false := World.ownsRow.frozenAt (hW1.to (n := n) HL2.out.symm) r
    have c0 : w1.cell? ⟨p, 0, none⟩ = some (.slice (some ⟨g1, 0, none⟩) n c1) := hB1.cell 0 rfl
    have hpg : p ≠ g1 := fun e => row_blk hW1 hB1 (by decide) (by rw [e]; rfl)
    have HST := Lib.hid hst
    have HF := Lib.hid hb1
    have HB1 := Lib.hid hB1
    clear hW1 hB1 hI1 hst hb1 c01
    go_wp2_with fail
    refine wp_region_still_tail 14 (by kernel_rfl) (by kernel_rfl) ?_
    simp only [List.take_succ_cons, List.take_zero, List.drop_succ_cons, List.drop_zero]
    repeat still_step
    still_call ((HRM.out _).mono fun _ _ h => ⟨h.1, h.2.symm⟩)
    repeat still_step
    refine wpStill_nil ?_
    change wpList _ _ _ _ _ w1.drew
    have c0d : w1.drew.cell? ⟨p, 0, none⟩ = some (.slice (some ⟨g1, 0, none⟩) n c1) := c0
    have hcw : (w1.setCell ⟨g1, r, none⟩ (.int .u64 (y : Int))).cell? ⟨g1, r, none⟩ = some (.int .u64 (y : Int)) := cell_set_same hwc
    have hcp : (w1.setCell ⟨g1, r, none⟩ (.int .u64 (y : Int))).cell? ⟨p, 0, none⟩ = some (.slice (some ⟨g1, 0, none⟩) n c1) := (HB1.out.other (a := ⟨g1, r, none⟩) hpg _).cell 0 rfl
    go_wp2_with fail
    go_ret
    exact ⟨rfl, _, HST.out.1.drewN 1, ((Fr.of_below _ HF.out).trans (Fr.weaken (G := p :: (obl (.slice (some ⟨g1, 0, none⟩) n c1) ++ obl (.slice a2 n c2))) HST.out.2 (fun k hk => by rw [List.mem_singleton.1 hk, obl_some]; simp) (fun k hk => .inr hk))).drew⟩

/-- ClearBit of a sparse array -/
theorem clearbit_any (p : Nat) (F : List Nat) (ps : Ps) (k : Nat) (w : World) (h : SpAt w p F ps) (hok : Ok ps) (hn : ps.length ≤ 1000) (hk : k < 18446744073709551616) :
    Calls Tryz.prog 112 #[.pointer (some ⟨p, 0, none⟩), .int .u64 (k : Int)] w fun e w' => e = .returned .nilIface ∧ ∃ F', SpAt w' p F' (clearB ps k) ∧ Fr F F' w w' := by
  by_cases hc : ∀ q, ps[pos ps (k / 64)]? = some q → q.1 ≠ k / 64
  · rw [clear_none hc]
    exact (clear_no p F ps k w h hok hn hk hc).mono fun e w' ⟨h1, h2⟩ => ⟨h1, F, h.below h2, Fr.of_below F h2⟩
  · cases hq : ps[pos ps (k / 64)]? with
    | none => exact absurd (fun q e => by rw [hq] at e; cases e) hc
    | some q =>
      obtain ⟨i, b⟩ := q
      by_cases e : i = k / 64
      · subst e; exact clear_yes p F ps k b w h hok hn hk hq
      · exact absurd (fun q e2 => by rw [hq] at e2; injection e2 with e2; rw [← e2]; exact e) hc
end Go.Proofs.YtgifbdjifmoafaaGreat
