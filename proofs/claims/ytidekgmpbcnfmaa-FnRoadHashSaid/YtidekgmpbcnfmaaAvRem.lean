/- removeBalance of an AVL tree, at nodes (printed by gen_avrem.py). -/
import Derived.Test.YtidekgmpbcnfmaaAvRot
import Derived.StillTailTactics
import Derived.Deep.DeepCutAuto
import Derived.Deep.CutBlock
namespace Go.Proofs.Ytidekgmpbcnfmaa
set_option linter.unusedVariables false
open Go.RowKit Avm

theorem rem_of0 {F G H : List Nat} {u v w : World} (h : Fr F [] u v) (k : Fr G H v w) (hG : ∀ x ∈ G, x ∈ F ∨ u.heap.size ≤ x) : Fr F [] u w :=
  ⟨k.os.trans h.os, k.tape.trans h.tape, k.output.trans h.output, Nat.le_trans h.size k.size, fun x hx hn => (k.block x (Nat.lt_of_lt_of_le hx h.size) (fun e => by
    rcases hG x e with h1 | h1
    · exact hn h1
    · omega)).trans (h.block x hx hn), fun x hx => by cases hx⟩
theorem rem_refl0 (F : List Nat) (u : World) : Fr F [] u u := ⟨rfl, rfl, rfl, Nat.le_refl _, fun _ _ _ => rfl, fun _ h => by cases h⟩

set_option maxRecDepth 100000 in
set_option maxHeartbeats 1000000 in
theorem rb01_any (s n dn : Nat) (sb : Int) (a x y : Option Addr) (k v k2 v2 : Int) (w : World) (hs : Nd w s sb a (some ⟨n, 0, none⟩) k v) (hn : Nd w n 1 x y k2 v2) (h1 : s ≠ n) :
    Calls Try.prog 52 #[.pointer (some ⟨s, 0, none⟩), .int .i64 0, .pointer (some ⟨dn, 0, none⟩)] w fun e' w' => e' = .returned (.pointer (some ⟨w.heap.size, 0, none⟩)) ∧ Nd w' s 0 a x k v ∧ Nd w' w.heap.size 0 (some ⟨s, 0, none⟩) y k2 v2 ∧ Fr [s] [] w w' := by
  have c1 : w.cell? ⟨s, 2, none⟩ = some (.pointer (some ⟨n, 0, none⟩)) := Blk.cell hs 2 rfl
  have HS := Lib.hid hs
  have HN := Lib.hid hn
  have hsl := Blk.lt hs
  have HSL := Lib.hid hsl
  have HO := Lib.hid opp_any
  have HCP := Lib.hid (fun w' h => copynode_any n 1 x y k2 v2 w' h)
  clear hs hn
  go_enter Try.func52, Try.ntmps52
  go_wp2_with fail
  go_region_law ((first
    | (go_simp; go_at_call 57; refine Calls.mono (HO.out 0 (by omega) (by omega) _) ?_; rintro e' w9 ⟨rfl, rfl⟩)
    | (go_simp; go_at_call 45; refine Calls.mono (HCP.out _ HN.out) ?_; rintro e' w1 ⟨rfl, hn1, hb1, hz1⟩; have HN1 := Lib.hid hn1; have HB1 := Lib.hid hb1; have HZ1 := Lib.hid hz1; clear hn1 hb1 hz1)
    | fail))
  have hs1 : Nd w1 s sb a (some ⟨n, 0, none⟩) k v := Nd.below (show Nd w.drew s sb a (some ⟨n, 0, none⟩) k v from HS.out) HB1.out
  obtain ⟨N, hN⟩ : ∃ N, w.heap.size = N := ⟨_, rfl⟩
  have HNN := Lib.hid hN
  have hn1 : Nd w1 N 1 x y k2 v2 := by rw [← hN]; exact HN1.out
  have hsz1 : w1.heap.size = N + 1 := by rw [← hN]; exact HZ1.out
  have hsN : s ≠ N := by omega
  have hNs : ¬ N = s := by omega
  have hf1 : Fr [] [] w w1 := (rem_refl0 [] w).drew.trans (Fr.of_below [] HB1.out)
  have c1 : w1.cell? ⟨s, 2, none⟩ = some (.pointer (some ⟨n, 0, none⟩)) := Blk.cell hs1 2 rfl
  have f1 : w1.frozen? ⟨s, 2, none⟩ = false := Blk.free hs1 2
  have HS1 := Lib.hid hs1
  have HM1 := Lib.hid hn1
  have HF1 := Lib.hid hf1
  clear hs1 hn1 hf1 hsz1 HN1 HB1 HZ1 HS HN HCP HSL
  go_upto_region 2 with fail
  show Code.wp _ (.region 2 _ true) _ _ w1
  refine wp_region_still_tail 7 (by kernel_rfl) (by kernel_rfl) ?_
  simp only [List.take_succ_cons, List.take_zero, List.drop_succ_cons, List.drop_zero]
  repeat still_step
  still_call (HO.out 0 (by omega) (by omega) _)
  repeat still_step
  refine wpStill_nil ?_
  change wpList _ _ _ _ _ w1.drew
  have hs2 : Nd (w1.setCell ⟨s, 2, none⟩ (.pointer (some ⟨N, 0, none⟩))).drew s sb a (some ⟨N, 0, none⟩) k v := Nd.setR (w := w1) HS1.out (some ⟨N, 0, none⟩)
  have hn2 : Nd (w1.setCell ⟨s, 2, none⟩ (.pointer (some ⟨N, 0, none⟩))).drew N 1 x y k2 v2 := Nd.oth (w := w1) HM1.out (a := ⟨s, 2, none⟩) hNs _
  have hf2 : Fr [s] [] w (w1.setCell ⟨s, 2, none⟩ (.pointer (some ⟨N, 0, none⟩))).drew := (rem_of0 (rem_of0 (rem_refl0 [s] w) HF1.out (by simp)) (Fr.store w1 (F := [s]) (a := ⟨s, 2, none⟩) (by simp) _) (fun x hx => .inl hx)).drew
  obtain ⟨w2, hw2⟩ : ∃ w2, w2 = (w1.setCell ⟨s, 2, none⟩ (.pointer (some ⟨N, 0, none⟩))).drew := ⟨_, rfl⟩
  rw [← hw2] at hs2 hn2 hf2
  have n0 : w2.cell? ⟨N, 0, none⟩ = some (.int .i8 1) := Blk.cell hn2 0 rfl
  have s0 : w2.cell? ⟨s, 0, none⟩ = some (.int .i8 sb) := Blk.cell hs2 0 rfl
  have fn0 := Blk.free hn2 0
  have fs0 := Blk.free hs2 0
  have HS2 := Lib.hid hs2
  have HN2 := Lib.hid hn2
  have HF2 := Lib.hid hf2
  have HW2 := Lib.hid hw2
  have HR := Lib.hid (fun w' h => rot0_any s N 0 0 a x y k v k2 v2 w' h)
  clear hs2 hn2 hf2 hw2
  go_upto_region 3 with fail
  rw [← HW2.out]
  clear c1 f1
  go_wp2_with fail
  refine Calls.mono (HR.out _ ((HS2.out.setB 0).oth hsN _) ((HN2.out.oth hNs _).setB 0) hsN) ?_
  rintro e' w3 ⟨rfl, hs3, hn3, hf3⟩
  have HS3 := Lib.hid hs3
  have HN3 := Lib.hid hn3
  have hfs := Fr.store w2 (F := [s, N]) (a := ⟨s, 0, none⟩) (by simp) (.int .i8 0)
  have hft := Fr.store (w2.setCell ⟨s, 0, none⟩ (.int .i8 0)) (F := [s, N]) (a := ⟨N, 0, none⟩) (by simp) (.int .i8 0)
  have HF3 := Lib.hid ((hfs.trans hft).trans hf3)
  clear hs3 hn3 hf3 hfs hft
  go_wp2_with fail
  go_ret
  rw [HNN.out]
  exact ⟨rfl, HS3.out, HN3.out, rem_of0 HF2.out HF3.out (fun x hx => by
    simp only [List.mem_cons, List.not_mem_nil, or_false] at hx
    rcases hx with rfl | rfl
    · exact .inl (by simp)
    · exact .inr (by rw [HNN.out]; exact Nat.le_refl _))⟩

set_option maxRecDepth 100000 in
set_option maxHeartbeats 1000000 in
theorem rb03_any (s n dn : Nat) (sb : Int) (a x y : Option Addr) (k v k2 v2 : Int) (w : World) (hs : Nd w s sb a (some ⟨n, 0, none⟩) k v) (hn : Nd w n 0 x y k2 v2) (h1 : s ≠ n) (hd : Blk w dn 3 #[.int .i64 0]) (hsd : s ≠ dn) :
    Calls Try.prog 52 #[.pointer (some ⟨s, 0, none⟩), .int .i64 0, .pointer (some ⟨dn, 0, none⟩)] w fun e' w' => e' = .returned (.pointer (some ⟨w.heap.size, 0, none⟩)) ∧ Nd w' s 1 a x k v ∧ Nd w' w.heap.size (-1) (some ⟨s, 0, none⟩) y k2 v2 ∧ Blk w' dn 3 #[.int .i64 1] ∧ Fr [s, dn] [] w w' := by
  have c1 : w.cell? ⟨s, 2, none⟩ = some (.pointer (some ⟨n, 0, none⟩)) := Blk.cell hs 2 rfl
  have HS := Lib.hid hs
  have HN := Lib.hid hn
  have hsl := Blk.lt hs
  have HSL := Lib.hid hsl
  have HO := Lib.hid opp_any
  have HCP := Lib.hid (fun w' h => copynode_any n 0 x y k2 v2 w' h)
  have HD := Lib.hid hd
  have hdl := hd.lt
  have HDL := Lib.hid hdl
  clear hd
  clear hs hn
  go_enter Try.func52, Try.ntmps52
  go_wp2_with fail
  go_region_law ((first
    | (go_simp; go_at_call 57; refine Calls.mono (HO.out 0 (by omega) (by omega) _) ?_; rintro e' w9 ⟨rfl, rfl⟩)
    | (go_simp; go_at_call 45; refine Calls.mono (HCP.out _ HN.out) ?_; rintro e' w1 ⟨rfl, hn1, hb1, hz1⟩; have HN1 := Lib.hid hn1; have HB1 := Lib.hid hb1; have HZ1 := Lib.hid hz1; clear hn1 hb1 hz1)
    | fail))
  have hs1 : Nd w1 s sb a (some ⟨n, 0, none⟩) k v := Nd.below (show Nd w.drew s sb a (some ⟨n, 0, none⟩) k v from HS.out) HB1.out
  obtain ⟨N, hN⟩ : ∃ N, w.heap.size = N := ⟨_, rfl⟩
  have HNN := Lib.hid hN
  have hn1 : Nd w1 N 0 x y k2 v2 := by rw [← hN]; exact HN1.out
  have hsz1 : w1.heap.size = N + 1 := by rw [← hN]; exact HZ1.out
  have hsN : s ≠ N := by omega
  have hNs : ¬ N = s := by omega
  have hf1 : Fr [] [] w w1 := (rem_refl0 [] w).drew.trans (Fr.of_below [] HB1.out)
  have c1 : w1.cell? ⟨s, 2, none⟩ = some (.pointer (some ⟨n, 0, none⟩)) := Blk.cell hs1 2 rfl
  have f1 : w1.frozen? ⟨s, 2, none⟩ = false := Blk.free hs1 2
  have hd1 : Blk w1 dn 3 #[.int .i64 0] := hf1.blk HD.out (by simp)
  have HD1 := Lib.hid hd1
  have hdN : ¬ dn = N := by omega
  clear hd1
  have HS1 := Lib.hid hs1
  have HM1 := Lib.hid hn1
  have HF1 := Lib.hid hf1
  clear hs1 hn1 hf1 hsz1 HN1 HB1 HZ1 HS HN HCP HSL
  go_upto_region 2 with fail
  show Code.wp _ (.region 2 _ true) _ _ w1
  refine wp_region_still_tail 7 (by kernel_rfl) (by kernel_rfl) ?_
  simp only [List.take_succ_cons, List.take_zero, List.drop_succ_cons, List.drop_zero]
  repeat still_step
  still_call (HO.out 0 (by omega) (by omega) _)
  repeat still_step
  refine wpStill_nil ?_
  change wpList _ _ _ _ _ w1.drew
  have hs2 : Nd (w1.setCell ⟨s, 2, none⟩ (.pointer (some ⟨N, 0, none⟩))).drew s sb a (some ⟨N, 0, none⟩) k v := Nd.setR (w := w1) HS1.out (some ⟨N, 0, none⟩)
  have hn2 : Nd (w1.setCell ⟨s, 2, none⟩ (.pointer (some ⟨N, 0, none⟩))).drew N 0 x y k2 v2 := Nd.oth (w := w1) HM1.out (a := ⟨s, 2, none⟩) hNs _
  have hf2 : Fr [s] [] w (w1.setCell ⟨s, 2, none⟩ (.pointer (some ⟨N, 0, none⟩))).drew := (rem_of0 (rem_of0 (rem_refl0 [s] w) HF1.out (by simp)) (Fr.store w1 (F := [s]) (a := ⟨s, 2, none⟩) (by simp) _) (fun x hx => .inl hx)).drew
  obtain ⟨w2, hw2⟩ : ∃ w2, w2 = (w1.setCell ⟨s, 2, none⟩ (.pointer (some ⟨N, 0, none⟩))).drew := ⟨_, rfl⟩
  rw [← hw2] at hs2 hn2 hf2
  have n0 : w2.cell? ⟨N, 0, none⟩ = some (.int .i8 0) := Blk.cell hn2 0 rfl
  have s0 : w2.cell? ⟨s, 0, none⟩ = some (.int .i8 sb) := Blk.cell hs2 0 rfl
  have fn0 := Blk.free hn2 0
  have fs0 := Blk.free hs2 0
  have HS2 := Lib.hid hs2
  have HN2 := Lib.hid hn2
  have HF2 := Lib.hid hf2
  have HW2 := Lib.hid hw2
  have hd2 : Blk w2 dn 3 #[.int .i64 0] := by rw [hw2]; exact Blk.other (w := w1) HD1.out (a := ⟨s, 2, none⟩) (fun e => hsd e.symm) _
  have d0 := hd2.cell 0 rfl
  have fd0 := hd2.free 0
  have HD2 := Lib.hid hd2
  have hds : ¬ dn = s := fun e => hsd e.symm
  clear hd2
  have HR := Lib.hid (fun w' h => rot0_any s N 1 (-1) a x y k v k2 v2 w' h)
  clear hs2 hn2 hf2 hw2
  go_upto_region 3 with fail
  rw [← HW2.out]
  clear c1 f1
  go_wp2_with fail
  refine Calls.mono (HR.out _ ((HS2.out.setB 1).oth hsN _) ((HN2.out.oth hNs _).setB (-1)) hsN) ?_
  rintro e' w3 ⟨rfl, hs3, hn3, hf3⟩
  have HS3 := Lib.hid hs3
  have HN3 := Lib.hid hn3
  have hfs := Fr.store w2 (F := [s, N]) (a := ⟨s, 0, none⟩) (by simp) (.int .i8 1)
  have hft := Fr.store (w2.setCell ⟨s, 0, none⟩ (.int .i8 1)) (F := [s, N]) (a := ⟨N, 0, none⟩) (by simp) (.int .i8 (-1))
  have HF3 := Lib.hid ((hfs.trans hft).trans hf3)
  clear hs3 hn3 hf3 hfs hft
  have hd3 : Blk w3 dn 3 #[.int .i64 0] := HF3.out.blk HD2.out (by simp; exact ⟨hds, hdN⟩)
  have d0 := hd3.cell 0 rfl
  have fd0 := hd3.free 0
  have HD3 := Lib.hid hd3
  clear hd3
  go_wp2_with fail
  go_ret
  rw [HNN.out]
  refine ⟨rfl, HS3.out.oth (a := ⟨dn, 0, none⟩) hsd _, HN3.out.oth (a := ⟨dn, 0, none⟩) (fun e => hdN e.symm) _, HD3.out.set 0 _, ?_⟩
  refine rem_of0 (rem_of0 (F := [s, dn]) (HF2.out.weaken (by simp) (by simp)) HF3.out (fun x hx => ?_)) (Fr.store w3 (F := [dn]) (a := ⟨dn, 0, none⟩) (by simp) _) (fun x hx => .inl (by simp at hx; simp [hx]))
  simp only [List.mem_cons, List.not_mem_nil, or_false] at hx
  rcases hx with rfl | rfl
  · exact .inl (by simp)
  · exact .inr (by rw [HNN.out]; exact Nat.le_refl _)

set_option maxRecDepth 100000 in
set_option maxHeartbeats 1000000 in
theorem rb02_any (s n m dn : Nat) (sb mb : Int) (a y ml mr : Option Addr) (k v k2 v2 mk mv : Int) (w : World) (hs : Nd w s sb a (some ⟨n, 0, none⟩) k v) (hn : Nd w n (-1) (some ⟨m, 0, none⟩) y k2 v2) (hm : Nd w m mb ml mr mk mv) (h1 : s ≠ n) (h2 : s ≠ m) (hmb : -1 ≤ mb ∧ mb ≤ 1) :
    Calls Try.prog 52 #[.pointer (some ⟨s, 0, none⟩), .int .i64 0, .pointer (some ⟨dn, 0, none⟩)] w fun e' w' => e' = .returned (.pointer (some ⟨m, 0, none⟩)) ∧ Nd w' s (aS1 mb) a ml k v ∧ Nd w' w.heap.size (aN1 mb) mr y k2 v2 ∧ Nd w' m 0 (some ⟨s, 0, none⟩) (some ⟨w.heap.size, 0, none⟩) mk mv ∧ Fr [s, m] [] w w' := by
  have c1 : w.cell? ⟨s, 2, none⟩ = some (.pointer (some ⟨n, 0, none⟩)) := Blk.cell hs 2 rfl
  have HS := Lib.hid hs
  have HN := Lib.hid hn
  have hsl := Blk.lt hs
  have HSL := Lib.hid hsl
  have HO := Lib.hid opp_any
  have HCP := Lib.hid (fun w' h => copynode_any n (-1) (some ⟨m, 0, none⟩) y k2 v2 w' h)
  have HM := Lib.hid hm
  have hml := Blk.lt hm
  have HML := Lib.hid hml
  clear hm
  clear hs hn
  go_enter Try.func52, Try.ntmps52
  go_wp2_with fail
  go_region_law ((first
    | (go_simp; go_at_call 57; refine Calls.mono (HO.out 0 (by omega) (by omega) _) ?_; rintro e' w9 ⟨rfl, rfl⟩)
    | (go_simp; go_at_call 45; refine Calls.mono (HCP.out _ HN.out) ?_; rintro e' w1 ⟨rfl, hn1, hb1, hz1⟩; have HN1 := Lib.hid hn1; have HB1 := Lib.hid hb1; have HZ1 := Lib.hid hz1; clear hn1 hb1 hz1)
    | fail))
  have hs1 : Nd w1 s sb a (some ⟨n, 0, none⟩) k v := Nd.below (show Nd w.drew s sb a (some ⟨n, 0, none⟩) k v from HS.out) HB1.out
  obtain ⟨N, hN⟩ : ∃ N, w.heap.size = N := ⟨_, rfl⟩
  have HNN := Lib.hid hN
  have hn1 : Nd w1 N (-1) (some ⟨m, 0, none⟩) y k2 v2 := by rw [← hN]; exact HN1.out
  have hsz1 : w1.heap.size = N + 1 := by rw [← hN]; exact HZ1.out
  have hsN : s ≠ N := by omega
  have hNs : ¬ N = s := by omega
  have hf1 : Fr [] [] w w1 := (rem_refl0 [] w).drew.trans (Fr.of_below [] HB1.out)
  have c1 : w1.cell? ⟨s, 2, none⟩ = some (.pointer (some ⟨n, 0, none⟩)) := Blk.cell hs1 2 rfl
  have f1 : w1.frozen? ⟨s, 2, none⟩ = false := Blk.free hs1 2
  have hm1 : Nd w1 m mb ml mr mk mv := hf1.blk HM.out (by simp)
  have HMM1 := Lib.hid hm1
  have hmN : N ≠ m := by omega
  clear hm1
  have HS1 := Lib.hid hs1
  have HM1 := Lib.hid hn1
  have HF1 := Lib.hid hf1
  clear hs1 hn1 hf1 hsz1 HN1 HB1 HZ1 HS HN HCP HSL
  go_upto_region 2 with fail
  show Code.wp _ (.region 2 _ true) _ _ w1
  refine wp_region_still_tail 7 (by kernel_rfl) (by kernel_rfl) ?_
  simp only [List.take_succ_cons, List.take_zero, List.drop_succ_cons, List.drop_zero]
  repeat still_step
  still_call (HO.out 0 (by omega) (by omega) _)
  repeat still_step
  refine wpStill_nil ?_
  change wpList _ _ _ _ _ w1.drew
  have hs2 : Nd (w1.setCell ⟨s, 2, none⟩ (.pointer (some ⟨N, 0, none⟩))).drew s sb a (some ⟨N, 0, none⟩) k v := Nd.setR (w := w1) HS1.out (some ⟨N, 0, none⟩)
  have hn2 : Nd (w1.setCell ⟨s, 2, none⟩ (.pointer (some ⟨N, 0, none⟩))).drew N (-1) (some ⟨m, 0, none⟩) y k2 v2 := Nd.oth (w := w1) HM1.out (a := ⟨s, 2, none⟩) hNs _
  have hf2 : Fr [s] [] w (w1.setCell ⟨s, 2, none⟩ (.pointer (some ⟨N, 0, none⟩))).drew := (rem_of0 (rem_of0 (rem_refl0 [s] w) HF1.out (by simp)) (Fr.store w1 (F := [s]) (a := ⟨s, 2, none⟩) (by simp) _) (fun x hx => .inl hx)).drew
  obtain ⟨w2, hw2⟩ : ∃ w2, w2 = (w1.setCell ⟨s, 2, none⟩ (.pointer (some ⟨N, 0, none⟩))).drew := ⟨_, rfl⟩
  rw [← hw2] at hs2 hn2 hf2
  have hm2 : Nd w2 m mb ml mr mk mv := by rw [hw2]; exact Nd.oth (w := w1) HMM1.out (a := ⟨s, 2, none⟩) (fun e => h2 e.symm) _
  have n0 : w2.cell? ⟨N, 0, none⟩ = some (.int .i8 (-1)) := Blk.cell hn2 0 rfl
  have ha := adj1_any s N m sb (-1) mb a y ml mr k v k2 v2 mk mv w2 hs2 hn2 hm2 hsN h2 hmN hmb
  obtain ⟨S, hS⟩ : ∃ S, (aS1 mb) = S := ⟨_, rfl⟩
  obtain ⟨NB, hNB⟩ : ∃ S, (aN1 mb) = S := ⟨_, rfl⟩
  rw [hS, hNB] at ha
  have HSS := Lib.hid hS
  have HNB := Lib.hid hNB
  have HA := Lib.hid ha
  have HF2 := Lib.hid hf2
  have HW2 := Lib.hid hw2
  have HR := Lib.hid (fun w' h => drot0_any s N m S NB 0 a y ml mr k v k2 v2 mk mv w' h)
  clear hs2 hn2 hm2 hf2 hw2 ha hS hNB hmb
  go_upto_region 3 with fail
  rw [← HW2.out]
  clear c1 f1
  go_wp2_with fail
  refine (HO.out 0 (by omega) (by omega) _).mono ?_
  rintro e' w9 ⟨rfl, rfl⟩
  go_wp2_with fail
  refine HA.out.mono ?_
  rintro e' w3 ⟨rfl, hs3, hn3, hm3, hf3⟩
  have HS3 := Lib.hid hs3
  have HN3 := Lib.hid hn3
  have HM3 := Lib.hid hm3
  have HF3 := Lib.hid hf3
  clear hs3 hn3 hm3 hf3
  go_wp2_with fail
  refine Calls.mono (HR.out _ HS3.out HN3.out HM3.out hsN h2 hmN) ?_
  rintro e' w4 ⟨rfl, hs4, hn4, hm4, hf4⟩
  have HS4 := Lib.hid hs4
  have HN4 := Lib.hid hn4
  have HM4 := Lib.hid hm4
  have HF4 := Lib.hid hf4
  clear hs4 hn4 hm4 hf4
  go_wp2_with fail
  go_ret
  rw [HNN.out, HSS.out, HNB.out]
  exact ⟨rfl, HS4.out, HN4.out, HM4.out, rem_of0 (F := [s, m]) (HF2.out.weaken (by simp) (by simp)) (HF3.out.trans HF4.out) (fun x hx => by
    simp only [List.mem_cons, List.not_mem_nil, or_false] at hx
    rcases hx with rfl | rfl | rfl
    · exact .inl (by simp)
    · exact .inr (by rw [HNN.out]; exact Nat.le_refl _)
    · exact .inl (by simp))⟩

set_option maxRecDepth 100000 in
set_option maxHeartbeats 1000000 in
theorem rb11_any (s n dn : Nat) (sb : Int) (a x y : Option Addr) (k v k2 v2 : Int) (w : World) (hs : Nd w s sb (some ⟨n, 0, none⟩) a k v) (hn : Nd w n (-1) y x k2 v2) (h1 : s ≠ n) :
    Calls Try.prog 52 #[.pointer (some ⟨s, 0, none⟩), .int .i64 1, .pointer (some ⟨dn, 0, none⟩)] w fun e' w' => e' = .returned (.pointer (some ⟨w.heap.size, 0, none⟩)) ∧ Nd w' s 0 x a k v ∧ Nd w' w.heap.size 0 y (some ⟨s, 0, none⟩) k2 v2 ∧ Fr [s] [] w w' := by
  have c1 : w.cell? ⟨s, 1, none⟩ = some (.pointer (some ⟨n, 0, none⟩)) := Blk.cell hs 1 rfl
  have HS := Lib.hid hs
  have HN := Lib.hid hn
  have hsl := Blk.lt hs
  have HSL := Lib.hid hsl
  have HO := Lib.hid opp_any
  have HCP := Lib.hid (fun w' h => copynode_any n (-1) y x k2 v2 w' h)
  clear hs hn
  go_enter Try.func52, Try.ntmps52
  go_wp2_with fail
  go_region_law ((first
    | (go_simp; go_at_call 57; refine Calls.mono (HO.out 1 (by omega) (by omega) _) ?_; rintro e' w9 ⟨rfl, rfl⟩)
    | (go_simp; go_at_call 45; refine Calls.mono (HCP.out _ HN.out) ?_; rintro e' w1 ⟨rfl, hn1, hb1, hz1⟩; have HN1 := Lib.hid hn1; have HB1 := Lib.hid hb1; have HZ1 := Lib.hid hz1; clear hn1 hb1 hz1)
    | fail))
  have hs1 : Nd w1 s sb (some ⟨n, 0, none⟩) a k v := Nd.below (show Nd w.drew s sb (some ⟨n, 0, none⟩) a k v from HS.out) HB1.out
  obtain ⟨N, hN⟩ : ∃ N, w.heap.size = N := ⟨_, rfl⟩
  have HNN := Lib.hid hN
  have hn1 : Nd w1 N (-1) y x k2 v2 := by rw [← hN]; exact HN1.out
  have hsz1 : w1.heap.size = N + 1 := by rw [← hN]; exact HZ1.out
  have hsN : s ≠ N := by omega
  have hNs : ¬ N = s := by omega
  have hf1 : Fr [] [] w w1 := (rem_refl0 [] w).drew.trans (Fr.of_below [] HB1.out)
  have c1 : w1.cell? ⟨s, 1, none⟩ = some (.pointer (some ⟨n, 0, none⟩)) := Blk.cell hs1 1 rfl
  have f1 : w1.frozen? ⟨s, 1, none⟩ = false := Blk.free hs1 1
  have HS1 := Lib.hid hs1
  have HM1 := Lib.hid hn1
  have HF1 := Lib.hid hf1
  clear hs1 hn1 hf1 hsz1 HN1 HB1 HZ1 HS HN HCP HSL
  go_upto_region 2 with fail
  show Code.wp _ (.region 2 _ true) _ _ w1
  refine wp_region_still_tail 7 (by kernel_rfl) (by kernel_rfl) ?_
  simp only [List.take_succ_cons, List.take_zero, List.drop_succ_cons, List.drop_zero]
  repeat still_step
  still_call (HO.out 1 (by omega) (by omega) _)
  repeat still_step
  refine wpStill_nil ?_
  change wpList _ _ _ _ _ w1.drew
  have hs2 : Nd (w1.setCell ⟨s, 1, none⟩ (.pointer (some ⟨N, 0, none⟩))).drew s sb (some ⟨N, 0, none⟩) a k v := Nd.setL (w := w1) HS1.out (some ⟨N, 0, none⟩)
  have hn2 : Nd (w1.setCell ⟨s, 1, none⟩ (.pointer (some ⟨N, 0, none⟩))).drew N (-1) y x k2 v2 := Nd.oth (w := w1) HM1.out (a := ⟨s, 1, none⟩) hNs _
  have hf2 : Fr [s] [] w (w1.setCell ⟨s, 1, none⟩ (.pointer (some ⟨N, 0, none⟩))).drew := (rem_of0 (rem_of0 (rem_refl0 [s] w) HF1.out (by simp)) (Fr.store w1 (F := [s]) (a := ⟨s, 1, none⟩) (by simp) _) (fun x hx => .inl hx)).drew
  obtain ⟨w2, hw2⟩ : ∃ w2, w2 = (w1.setCell ⟨s, 1, none⟩ (.pointer (some ⟨N, 0, none⟩))).drew := ⟨_, rfl⟩
  rw [← hw2] at hs2 hn2 hf2
  have n0 : w2.cell? ⟨N, 0, none⟩ = some (.int .i8 (-1)) := Blk.cell hn2 0 rfl
  have s0 : w2.cell? ⟨s, 0, none⟩ = some (.int .i8 sb) := Blk.cell hs2 0 rfl
  have fn0 := Blk.free hn2 0
  have fs0 := Blk.free hs2 0
  have HS2 := Lib.hid hs2
  have HN2 := Lib.hid hn2
  have HF2 := Lib.hid hf2
  have HW2 := Lib.hid hw2
  have HR := Lib.hid (fun w' h => rot1_any s N 0 0 a x y k v k2 v2 w' h)
  clear hs2 hn2 hf2 hw2
  go_upto_region 3 with fail
  rw [← HW2.out]
  clear c1 f1
  go_wp2_with fail
  refine Calls.mono (HR.out _ ((HS2.out.setB 0).oth hsN _) ((HN2.out.oth hNs _).setB 0) hsN) ?_
  rintro e' w3 ⟨rfl, hs3, hn3, hf3⟩
  have HS3 := Lib.hid hs3
  have HN3 := Lib.hid hn3
  have hfs := Fr.store w2 (F := [s, N]) (a := ⟨s, 0, none⟩) (by simp) (.int .i8 0)
  have hft := Fr.store (w2.setCell ⟨s, 0, none⟩ (.int .i8 0)) (F := [s, N]) (a := ⟨N, 0, none⟩) (by simp) (.int .i8 0)
  have HF3 := Lib.hid ((hfs.trans hft).trans hf3)
  clear hs3 hn3 hf3 hfs hft
  go_wp2_with fail
  go_ret
  rw [HNN.out]
  exact ⟨rfl, HS3.out, HN3.out, rem_of0 HF2.out HF3.out (fun x hx => by
    simp only [List.mem_cons, List.not_mem_nil, or_false] at hx
    rcases hx with rfl | rfl
    · exact .inl (by simp)
    · exact .inr (by rw [HNN.out]; exact Nat.le_refl _))⟩

set_option maxRecDepth 100000 in
set_option maxHeartbeats 1000000 in
theorem rb13_any (s n dn : Nat) (sb : Int) (a x y : Option Addr) (k v k2 v2 : Int) (w : World) (hs : Nd w s sb (some ⟨n, 0, none⟩) a k v) (hn : Nd w n 0 y x k2 v2) (h1 : s ≠ n) (hd : Blk w dn 3 #[.int .i64 0]) (hsd : s ≠ dn) :
    Calls Try.prog 52 #[.pointer (some ⟨s, 0, none⟩), .int .i64 1, .pointer (some ⟨dn, 0, none⟩)] w fun e' w' => e' = .returned (.pointer (some ⟨w.heap.size, 0, none⟩)) ∧ Nd w' s (-1) x a k v ∧ Nd w' w.heap.size 1 y (some ⟨s, 0, none⟩) k2 v2 ∧ Blk w' dn 3 #[.int .i64 1] ∧ Fr [s, dn] [] w w' := by
  have c1 : w.cell? ⟨s, 1, none⟩ = some (.pointer (some ⟨n, 0, none⟩)) := Blk.cell hs 1 rfl
  have HS := Lib.hid hs
  have HN := Lib.hid hn
  have hsl := Blk.lt hs
  have HSL := Lib.hid hsl
  have HO := Lib.hid opp_any
  have HCP := Lib.hid (fun w' h => copynode_any n 0 y x k2 v2 w' h)
  have HD := Lib.hid hd
  have hdl := hd.lt
  have HDL := Lib.hid hdl
  clear hd
  clear hs hn
  go_enter Try.func52, Try.ntmps52
  go_wp2_with fail
  go_region_law ((first
    | (go_simp; go_at_call 57; refine Calls.mono (HO.out 1 (by omega) (by omega) _) ?_; rintro e' w9 ⟨rfl, rfl⟩)
    | (go_simp; go_at_call 45; refine Calls.mono (HCP.out _ HN.out) ?_; rintro e' w1 ⟨rfl, hn1, hb1, hz1⟩; have HN1 := Lib.hid hn1; have HB1 := Lib.hid hb1; have HZ1 := Lib.hid hz1; clear hn1 hb1 hz1)
    | fail))
  have hs1 : Nd w1 s sb (some ⟨n, 0, none⟩) a k v := Nd.below (show Nd w.drew s sb (some ⟨n, 0, none⟩) a k v from HS.out) HB1.out
  obtain ⟨N, hN⟩ : ∃ N, w.heap.size = N := ⟨_, rfl⟩
  have HNN := Lib.hid hN
  have hn1 : Nd w1 N 0 y x k2 v2 := by rw [← hN]; exact HN1.out
  have hsz1 : w1.heap.size = N + 1 := by rw [← hN]; exact HZ1.out
  have hsN : s ≠ N := by omega
  have hNs : ¬ N = s := by omega
  have hf1 : Fr [] [] w w1 := (rem_refl0 [] w).drew.trans (Fr.of_below [] HB1.out)
  have c1 : w1.cell? ⟨s, 1, none⟩ = some (.pointer (some ⟨n, 0, none⟩)) := Blk.cell hs1 1 rfl
  have f1 : w1.frozen? ⟨s, 1, none⟩ = false := Blk.free hs1 1
  have hd1 : Blk w1 dn 3 #[.int .i64 0] := hf1.blk HD.out (by simp)
  have HD1 := Lib.hid hd1
  have hdN : ¬ dn = N := by omega
  clear hd1
  have HS1 := Lib.hid hs1
  have HM1 := Lib.hid hn1
  have HF1 := Lib.hid hf1
  clear hs1 hn1 hf1 hsz1 HN1 HB1 HZ1 HS HN HCP HSL
  go_upto_region 2 with fail
  show Code.wp _ (.region 2 _ true) _ _ w1
  refine wp_region_still_tail 7 (by kernel_rfl) (by kernel_rfl) ?_
  simp only [List.take_succ_cons, List.take_zero, List.drop_succ_cons, List.drop_zero]
  repeat still_step
  still_call (HO.out 1 (by omega) (by omega) _)
  repeat still_step
  refine wpStill_nil ?_
  change wpList _ _ _ _ _ w1.drew
  have hs2 : Nd (w1.setCell ⟨s, 1, none⟩ (.pointer (some ⟨N, 0, none⟩))).drew s sb (some ⟨N, 0, none⟩) a k v := Nd.setL (w := w1) HS1.out (some ⟨N, 0, none⟩)
  have hn2 : Nd (w1.setCell ⟨s, 1, none⟩ (.pointer (some ⟨N, 0, none⟩))).drew N 0 y x k2 v2 := Nd.oth (w := w1) HM1.out (a := ⟨s, 1, none⟩) hNs _
  have hf2 : Fr [s] [] w (w1.setCell ⟨s, 1, none⟩ (.pointer (some ⟨N, 0, none⟩))).drew := (rem_of0 (rem_of0 (rem_refl0 [s] w) HF1.out (by simp)) (Fr.store w1 (F := [s]) (a := ⟨s, 1, none⟩) (by simp) _) (fun x hx => .inl hx)).drew
  obtain ⟨w2, hw2⟩ : ∃ w2, w2 = (w1.setCell ⟨s, 1, none⟩ (.pointer (some ⟨N, 0, none⟩))).drew := ⟨_, rfl⟩
  rw [← hw2] at hs2 hn2 hf2
  have n0 : w2.cell? ⟨N, 0, none⟩ = some (.int .i8 0) := Blk.cell hn2 0 rfl
  have s0 : w2.cell? ⟨s, 0, none⟩ = some (.int .i8 sb) := Blk.cell hs2 0 rfl
  have fn0 := Blk.free hn2 0
  have fs0 := Blk.free hs2 0
  have HS2 := Lib.hid hs2
  have HN2 := Lib.hid hn2
  have HF2 := Lib.hid hf2
  have HW2 := Lib.hid hw2
  have hd2 : Blk w2 dn 3 #[.int .i64 0] := by rw [hw2]; exact Blk.other (w := w1) HD1.out (a := ⟨s, 1, none⟩) (fun e => hsd e.symm) _
  have d0 := hd2.cell 0 rfl
  have fd0 := hd2.free 0
  have HD2 := Lib.hid hd2
  have hds : ¬ dn = s := fun e => hsd e.symm
  clear hd2
  have HR := Lib.hid (fun w' h => rot1_any s N (-1) 1 a x y k v k2 v2 w' h)
  clear hs2 hn2 hf2 hw2
  go_upto_region 3 with fail
  rw [← HW2.out]
  clear c1 f1
  go_wp2_with fail
  refine Calls.mono (HR.out _ ((HS2.out.setB (-1)).oth hsN _) ((HN2.out.oth hNs _).setB 1) hsN) ?_
  rintro e' w3 ⟨rfl, hs3, hn3, hf3⟩
  have HS3 := Lib.hid hs3
  have HN3 := Lib.hid hn3
  have hfs := Fr.store w2 (F := [s, N]) (a := ⟨s, 0, none⟩) (by simp) (.int .i8 (-1))
  have hft := Fr.store (w2.setCell ⟨s, 0, none⟩ (.int .i8 (-1))) (F := [s, N]) (a := ⟨N, 0, none⟩) (by simp) (.int .i8 1)
  have HF3 := Lib.hid ((hfs.trans hft).trans hf3)
  clear hs3 hn3 hf3 hfs hft
  have hd3 : Blk w3 dn 3 #[.int .i64 0] := HF3.out.blk HD2.out (by simp; exact ⟨hds, hdN⟩)
  have d0 := hd3.cell 0 rfl
  have fd0 := hd3.free 0
  have HD3 := Lib.hid hd3
  clear hd3
  go_wp2_with fail
  go_ret
  rw [HNN.out]
  refine ⟨rfl, HS3.out.oth (a := ⟨dn, 0, none⟩) hsd _, HN3.out.oth (a := ⟨dn, 0, none⟩) (fun e => hdN e.symm) _, HD3.out.set 0 _, ?_⟩
  refine rem_of0 (rem_of0 (F := [s, dn]) (HF2.out.weaken (by simp) (by simp)) HF3.out (fun x hx => ?_)) (Fr.store w3 (F := [dn]) (a := ⟨dn, 0, none⟩) (by simp) _) (fun x hx => .inl (by simp at hx; simp [hx]))
  simp only [List.mem_cons, List.not_mem_nil, or_false] at hx
  rcases hx with rfl | rfl
  · exact .inl (by simp)
  · exact .inr (by rw [HNN.out]; exact Nat.le_refl _)

set_option maxRecDepth 100000 in
set_option maxHeartbeats 1000000 in
theorem rb12_any (s n m dn : Nat) (sb mb : Int) (a y ml mr : Option Addr) (k v k2 v2 mk mv : Int) (w : World) (hs : Nd w s sb (some ⟨n, 0, none⟩) a k v) (hn : Nd w n 1 y (some ⟨m, 0, none⟩) k2 v2) (hm : Nd w m mb mr ml mk mv) (h1 : s ≠ n) (h2 : s ≠ m) (hmb : -1 ≤ mb ∧ mb ≤ 1) :
    Calls Try.prog 52 #[.pointer (some ⟨s, 0, none⟩), .int .i64 1, .pointer (some ⟨dn, 0, none⟩)] w fun e' w' => e' = .returned (.pointer (some ⟨m, 0, none⟩)) ∧ Nd w' s (aS0 mb) ml a k v ∧ Nd w' w.heap.size (aN0 mb) y mr k2 v2 ∧ Nd w' m 0 (some ⟨w.heap.size, 0, none⟩) (some ⟨s, 0, none⟩) mk mv ∧ Fr [s, m] [] w w' := by
  have c1 : w.cell? ⟨s, 1, none⟩ = some (.pointer (some ⟨n, 0, none⟩)) := Blk.cell hs 1 rfl
  have HS := Lib.hid hs
  have HN := Lib.hid hn
  have hsl := Blk.lt hs
  have HSL := Lib.hid hsl
  have HO := Lib.hid opp_any
  have HCP := Lib.hid (fun w' h => copynode_any n 1 y (some ⟨m, 0, none⟩) k2 v2 w' h)
  have HM := Lib.hid hm
  have hml := Blk.lt hm
  have HML := Lib.hid hml
  clear hm
  clear hs hn
  go_enter Try.func52, Try.ntmps52
  go_wp2_with fail
  go_region_law ((first
    | (go_simp; go_at_call 57; refine Calls.mono (HO.out 1 (by omega) (by omega) _) ?_; rintro e' w9 ⟨rfl, rfl⟩)
    | (go_simp; go_at_call 45; refine Calls.mono (HCP.out _ HN.out) ?_; rintro e' w1 ⟨rfl, hn1, hb1, hz1⟩; have HN1 := Lib.hid hn1; have HB1 := Lib.hid hb1; have HZ1 := Lib.hid hz1; clear hn1 hb1 hz1)
    | fail))
  have hs1 : Nd w1 s sb (some ⟨n, 0, none⟩) a k v := Nd.below (show Nd w.drew s sb (some ⟨n, 0, none⟩) a k v from HS.out) HB1.out
  obtain ⟨N, hN⟩ : ∃ N, w.heap.size = N := ⟨_, rfl⟩
  have HNN := Lib.hid hN
  have hn1 : Nd w1 N 1 y (some ⟨m, 0, none⟩) k2 v2 := by rw [← hN]; exact HN1.out
  have hsz1 : w1.heap.size = N + 1 := by rw [← hN]; exact HZ1.out
  have hsN : s ≠ N := by omega
  have hNs : ¬ N = s := by omega
  have hf1 : Fr [] [] w w1 := (rem_refl0 [] w).drew.trans (Fr.of_below [] HB1.out)
  have c1 : w1.cell? ⟨s, 1, none⟩ = some (.pointer (some ⟨n, 0, none⟩)) := Blk.cell hs1 1 rfl
  have f1 : w1.frozen? ⟨s, 1, none⟩ = false := Blk.free hs1 1
  have hm1 : Nd w1 m mb mr ml mk mv := hf1.blk HM.out (by simp)
  have HMM1 := Lib.hid hm1
  have hmN : N ≠ m := by omega
  clear hm1
  have HS1 := Lib.hid hs1
  have HM1 := Lib.hid hn1
  have HF1 := Lib.hid hf1
  clear hs1 hn1 hf1 hsz1 HN1 HB1 HZ1 HS HN HCP HSL
  go_upto_region 2 with fail
  show Code.wp _ (.region 2 _ true) _ _ w1
  refine wp_region_still_tail 7 (by kernel_rfl) (by kernel_rfl) ?_
  simp only [List.take_succ_cons, List.take_zero, List.drop_succ_cons, List.drop_zero]
  repeat still_step
  still_call (HO.out 1 (by omega) (by omega) _)
  repeat still_step
  refine wpStill_nil ?_
  change wpList _ _ _ _ _ w1.drew
  have hs2 : Nd (w1.setCell ⟨s, 1, none⟩ (.pointer (some ⟨N, 0, none⟩))).drew s sb (some ⟨N, 0, none⟩) a k v := Nd.setL (w := w1) HS1.out (some ⟨N, 0, none⟩)
  have hn2 : Nd (w1.setCell ⟨s, 1, none⟩ (.pointer (some ⟨N, 0, none⟩))).drew N 1 y (some ⟨m, 0, none⟩) k2 v2 := Nd.oth (w := w1) HM1.out (a := ⟨s, 1, none⟩) hNs _
  have hf2 : Fr [s] [] w (w1.setCell ⟨s, 1, none⟩ (.pointer (some ⟨N, 0, none⟩))).drew := (rem_of0 (rem_of0 (rem_refl0 [s] w) HF1.out (by simp)) (Fr.store w1 (F := [s]) (a := ⟨s, 1, none⟩) (by simp) _) (fun x hx => .inl hx)).drew
  obtain ⟨w2, hw2⟩ : ∃ w2, w2 = (w1.setCell ⟨s, 1, none⟩ (.pointer (some ⟨N, 0, none⟩))).drew := ⟨_, rfl⟩
  rw [← hw2] at hs2 hn2 hf2
  have hm2 : Nd w2 m mb mr ml mk mv := by rw [hw2]; exact Nd.oth (w := w1) HMM1.out (a := ⟨s, 1, none⟩) (fun e => h2 e.symm) _
  have n0 : w2.cell? ⟨N, 0, none⟩ = some (.int .i8 1) := Blk.cell hn2 0 rfl
  have ha := adj0_any s N m sb 1 mb a y ml mr k v k2 v2 mk mv w2 hs2 hn2 hm2 hsN h2 hmN hmb
  obtain ⟨S, hS⟩ : ∃ S, (aS0 mb) = S := ⟨_, rfl⟩
  obtain ⟨NB, hNB⟩ : ∃ S, (aN0 mb) = S := ⟨_, rfl⟩
  rw [hS, hNB] at ha
  have HSS := Lib.hid hS
  have HNB := Lib.hid hNB
  have HA := Lib.hid ha
  have HF2 := Lib.hid hf2
  have HW2 := Lib.hid hw2
  have HR := Lib.hid (fun w' h => drot1_any s N m S NB 0 a y ml mr k v k2 v2 mk mv w' h)
  clear hs2 hn2 hm2 hf2 hw2 ha hS hNB hmb
  go_upto_region 3 with fail
  rw [← HW2.out]
  clear c1 f1
  go_wp2_with fail
  refine (HO.out 1 (by omega) (by omega) _).mono ?_
  rintro e' w9 ⟨rfl, rfl⟩
  go_wp2_with fail
  refine HA.out.mono ?_
  rintro e' w3 ⟨rfl, hs3, hn3, hm3, hf3⟩
  have HS3 := Lib.hid hs3
  have HN3 := Lib.hid hn3
  have HM3 := Lib.hid hm3
  have HF3 := Lib.hid hf3
  clear hs3 hn3 hm3 hf3
  go_wp2_with fail
  refine Calls.mono (HR.out _ HS3.out HN3.out HM3.out hsN h2 hmN) ?_
  rintro e' w4 ⟨rfl, hs4, hn4, hm4, hf4⟩
  have HS4 := Lib.hid hs4
  have HN4 := Lib.hid hn4
  have HM4 := Lib.hid hm4
  have HF4 := Lib.hid hf4
  clear hs4 hn4 hm4 hf4
  go_wp2_with fail
  go_ret
  rw [HNN.out, HSS.out, HNB.out]
  exact ⟨rfl, HS4.out, HN4.out, HM4.out, rem_of0 (F := [s, m]) (HF2.out.weaken (by simp) (by simp)) (HF3.out.trans HF4.out) (fun x hx => by
    simp only [List.mem_cons, List.not_mem_nil, or_false] at hx
    rcases hx with rfl | rfl | rfl
    · exact .inl (by simp)
    · exact .inr (by rw [HNN.out]; exact Nat.le_refl _)
    · exact .inl (by simp))⟩

end Go.Proofs.Ytidekgmpbcnfmaa
