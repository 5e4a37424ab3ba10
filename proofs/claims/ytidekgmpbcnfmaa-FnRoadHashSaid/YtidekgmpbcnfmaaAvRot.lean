/- Walks of the rotations of AVL nodes (printed by gen_avrot.py). -/
import Derived.Test.YtidekgmpbcnfmaaAvMem
import Derived.Deep.RegionHeld3
namespace Go.Proofs.Ytidekgmpbcnfmaa
set_option linter.unusedVariables false
open Go.RowKit Avm

def aS1 (mb : Int) : Int := if mb = 1 then -1 else 0
def aN1 (mb : Int) : Int := if mb = 0 ∨ mb = 1 then 0 else 1
def aS0 (mb : Int) : Int := if mb = -1 then 1 else 0
def aN0 (mb : Int) : Int := if mb = 0 ∨ mb = -1 then 0 else -1

set_option maxRecDepth 100000 in
theorem drot0_any (p n m : Nat) (pb nb mb : Int) (a e ml mr : Option Addr) (k v k2 v2 mk mv : Int) (w : World) (hp : Nd w p pb a (some ⟨n, 0, none⟩) k v) (hn : Nd w n nb (some ⟨m, 0, none⟩) e k2 v2) (hm : Nd w m mb ml mr mk mv) (h1 : p ≠ n) (h2 : p ≠ m) (h3 : n ≠ m) :
    Calls Try.prog 59 #[.pointer (some ⟨p, 0, none⟩), .int .i64 0] w fun e' w' => e' = .returned (.pointer (some ⟨m, 0, none⟩)) ∧ Nd w' p pb a ml k v ∧ Nd w' n nb mr e k2 v2 ∧ Nd w' m mb (some ⟨p, 0, none⟩) (some ⟨n, 0, none⟩) mk mv ∧ Fr [p, n, m] [p, n, m] w w' := by
  have c1 : w.cell? ⟨p, 2, none⟩ = some (.pointer (some ⟨n, 0, none⟩)) := Blk.cell hp 2 rfl
  have f1 : w.frozen? ⟨p, 2, none⟩ = false := Blk.free hp 2
  have HP := Lib.hid hp
  have HN := Lib.hid hn
  have HM := Lib.hid hm
  have H1 := Lib.hid h1
  have H2 := Lib.hid h2
  have H3 := Lib.hid h3
  have HO := Lib.hid opp_any
  have HR := Lib.hid (fun w' h => rot1_any n m nb mb e mr ml k2 v2 mk mv w' h)
  have HR2 := Lib.hid (fun w' h => rot0_any p m pb mb a ml (some ⟨n, 0, none⟩) k v mk mv w' h)
  clear hp hn hm h1 h2 h3
  go_enter Try.func59, Try.ntmps59
  go_wp2_with fail
  refine (HO.out 0 (by omega) (by omega) _).mono ?_
  rintro e' w1 ⟨rfl, rfl⟩
  have HPD : Hid (Nd w1.drew p pb a (some ⟨n, 0, none⟩) k v) := Lib.hid HP.out
  have HND : Hid (Nd w1.drew n nb (some ⟨m, 0, none⟩) e k2 v2) := Lib.hid HN.out
  have HMD : Hid (Nd w1.drew m mb ml mr mk mv) := Lib.hid HM.out
  go_wp2_with fail
  go_region_law ((go_simp; go_at_call 56; refine Calls.mono (HR.out _ HND.out HMD.out H3.out) ?_; rintro e' w2 ⟨rfl, hn2, hm2, hf2⟩; have HP2 := Lib.hid (HPD.out.fr hf2 (by simp; exact ⟨H1.out, H2.out⟩)); have HN2 := Lib.hid hn2; have HM2 := Lib.hid hm2; have HF2 := Lib.hid hf2; have c2 : w2.cell? ⟨p, 2, none⟩ = some (.pointer (some ⟨n, 0, none⟩)) := Blk.cell HP2.out 2 rfl; have f2 : w2.frozen? ⟨p, 2, none⟩ = false := Blk.free HP2.out 2; clear hn2 hm2 hf2))
  go_wp2_with fail
  refine Calls.mono (HR2.out _ (HP2.out.setR (some ⟨m, 0, none⟩)) (HM2.out.oth (fun e => H2.out e.symm) _) H2.out) ?_
  rintro e' w3 ⟨rfl, hp3, hm3, hf3⟩
  have HP3 := Lib.hid hp3
  have HM3 := Lib.hid hm3
  have HF3 := Lib.hid hf3
  clear hp3 hm3 hf3
  go_wp2_with fail
  go_ret
  refine ⟨rfl, HP3.out, ?_, HM3.out, ?_⟩
  · exact (HN2.out.oth (fun e => H1.out e.symm) _).fr HF3.out (by simp; exact ⟨fun e => H1.out e.symm, H3.out⟩)
  · refine ((Fr.refl [p, n, m] w1).drew.trans (HF2.out.weaken (by simp) (by simp))).trans ((Fr.store w2 (F := [p, n, m]) (a := ⟨p, 2, none⟩) (by simp) _).trans (HF3.out.weaken (by simp) (by simp)))

set_option maxRecDepth 100000 in
theorem drot1_any (p n m : Nat) (pb nb mb : Int) (a e ml mr : Option Addr) (k v k2 v2 mk mv : Int) (w : World) (hp : Nd w p pb (some ⟨n, 0, none⟩) a k v) (hn : Nd w n nb e (some ⟨m, 0, none⟩) k2 v2) (hm : Nd w m mb mr ml mk mv) (h1 : p ≠ n) (h2 : p ≠ m) (h3 : n ≠ m) :
    Calls Try.prog 59 #[.pointer (some ⟨p, 0, none⟩), .int .i64 1] w fun e' w' => e' = .returned (.pointer (some ⟨m, 0, none⟩)) ∧ Nd w' p pb ml a k v ∧ Nd w' n nb e mr k2 v2 ∧ Nd w' m mb (some ⟨n, 0, none⟩) (some ⟨p, 0, none⟩) mk mv ∧ Fr [p, n, m] [p, n, m] w w' := by
  have c1 : w.cell? ⟨p, 1, none⟩ = some (.pointer (some ⟨n, 0, none⟩)) := Blk.cell hp 1 rfl
  have f1 : w.frozen? ⟨p, 1, none⟩ = false := Blk.free hp 1
  have HP := Lib.hid hp
  have HN := Lib.hid hn
  have HM := Lib.hid hm
  have H1 := Lib.hid h1
  have H2 := Lib.hid h2
  have H3 := Lib.hid h3
  have HO := Lib.hid opp_any
  have HR := Lib.hid (fun w' h => rot0_any n m nb mb e mr ml k2 v2 mk mv w' h)
  have HR2 := Lib.hid (fun w' h => rot1_any p m pb mb a ml (some ⟨n, 0, none⟩) k v mk mv w' h)
  clear hp hn hm h1 h2 h3
  go_enter Try.func59, Try.ntmps59
  go_wp2_with fail
  refine (HO.out 1 (by omega) (by omega) _).mono ?_
  rintro e' w1 ⟨rfl, rfl⟩
  have HPD : Hid (Nd w1.drew p pb (some ⟨n, 0, none⟩) a k v) := Lib.hid HP.out
  have HND : Hid (Nd w1.drew n nb e (some ⟨m, 0, none⟩) k2 v2) := Lib.hid HN.out
  have HMD : Hid (Nd w1.drew m mb mr ml mk mv) := Lib.hid HM.out
  go_wp2_with fail
  go_region_law ((go_simp; go_at_call 56; refine Calls.mono (HR.out _ HND.out HMD.out H3.out) ?_; rintro e' w2 ⟨rfl, hn2, hm2, hf2⟩; have HP2 := Lib.hid (HPD.out.fr hf2 (by simp; exact ⟨H1.out, H2.out⟩)); have HN2 := Lib.hid hn2; have HM2 := Lib.hid hm2; have HF2 := Lib.hid hf2; have c2 : w2.cell? ⟨p, 1, none⟩ = some (.pointer (some ⟨n, 0, none⟩)) := Blk.cell HP2.out 1 rfl; have f2 : w2.frozen? ⟨p, 1, none⟩ = false := Blk.free HP2.out 1; clear hn2 hm2 hf2))
  go_wp2_with fail
  refine Calls.mono (HR2.out _ (HP2.out.setL (some ⟨m, 0, none⟩)) (HM2.out.oth (fun e => H2.out e.symm) _) H2.out) ?_
  rintro e' w3 ⟨rfl, hp3, hm3, hf3⟩
  have HP3 := Lib.hid hp3
  have HM3 := Lib.hid hm3
  have HF3 := Lib.hid hf3
  clear hp3 hm3 hf3
  go_wp2_with fail
  go_ret
  refine ⟨rfl, HP3.out, ?_, HM3.out, ?_⟩
  · exact (HN2.out.oth (fun e => H1.out e.symm) _).fr HF3.out (by simp; exact ⟨fun e => H1.out e.symm, H3.out⟩)
  · refine ((Fr.refl [p, n, m] w1).drew.trans (HF2.out.weaken (by simp) (by simp))).trans ((Fr.store w2 (F := [p, n, m]) (a := ⟨p, 1, none⟩) (by simp) _).trans (HF3.out.weaken (by simp) (by simp)))

set_option maxRecDepth 100000 in
theorem adj1_any (s n m : Nat) (sb nb mb : Int) (a e ml mr : Option Addr) (k v k2 v2 mk mv : Int) (w : World) (hs : Nd w s sb a (some ⟨n, 0, none⟩) k v) (hn : Nd w n nb (some ⟨m, 0, none⟩) e k2 v2) (hm : Nd w m mb ml mr mk mv) (h1 : s ≠ n) (h2 : s ≠ m) (h3 : n ≠ m) (hmb : -1 ≤ mb ∧ mb ≤ 1) :
    Calls Try.prog 58 #[.pointer (some ⟨s, 0, none⟩), .int .i64 1, .int .i64 1] w fun e' w' => e' = .returned (.tuple #[]) ∧ Nd w' s (aS1 mb) a (some ⟨n, 0, none⟩) k v ∧ Nd w' n (aN1 mb) (some ⟨m, 0, none⟩) e k2 v2 ∧ Nd w' m 0 ml mr mk mv ∧ Fr [s, n, m] [s, n, m] w w' := by
  have c1 : w.cell? ⟨s, 2, none⟩ = some (.pointer (some ⟨n, 0, none⟩)) := Blk.cell hs 2 rfl
  have c2 : w.cell? ⟨n, 1, none⟩ = some (.pointer (some ⟨m, 0, none⟩)) := Blk.cell hn 1 rfl
  have c3 : w.cell? ⟨s, 0, none⟩ = some (.int .i8 sb) := Blk.cell hs 0 rfl
  have c4 : w.cell? ⟨n, 0, none⟩ = some (.int .i8 nb) := Blk.cell hn 0 rfl
  have c5 : w.cell? ⟨m, 0, none⟩ = some (.int .i8 mb) := Blk.cell hm 0 rfl
  have f3 : w.frozen? ⟨s, 0, none⟩ = false := Blk.free hs 0
  have f4 : w.frozen? ⟨n, 0, none⟩ = false := Blk.free hn 0
  have f5 : w.frozen? ⟨m, 0, none⟩ = false := Blk.free hm 0
  have g1 : ¬ n = s := fun e => h1 e.symm
  have g2 : ¬ m = s := fun e => h2 e.symm
  have g3 : ¬ m = n := fun e => h3 e.symm
  have HS := Lib.hid hs
  have HN := Lib.hid hn
  have HM := Lib.hid hm
  have HO := Lib.hid opp_any
  have hmc : mb = -1 ∨ mb = 0 ∨ mb = 1 := by omega
  clear hs hn hm hmb
  rcases hmc with rfl | rfl | rfl
  · go_enter Try.func58, Try.ntmps58
    go_wp2_with fail
    go_quiet ((go_at_call 57; exact Calls.quiet_of_same (HO.out 1 (by omega) (by omega) _)))
    obtain ⟨w2, hw2⟩ : ∃ w2, w2 = w.drewN nq := ⟨_, rfl⟩
    rw [← hw2]
    have c3' : w2.cell? ⟨s, 0, none⟩ = some (.int .i8 sb) := by rw [hw2]; exact c3
    have c4' : w2.cell? ⟨n, 0, none⟩ = some (.int .i8 nb) := by rw [hw2]; exact c4
    have c5' : w2.cell? ⟨m, 0, none⟩ = some (.int .i8 (-1)) := by rw [hw2]; exact c5
    have f3' : w2.frozen? ⟨s, 0, none⟩ = false := by rw [hw2]; exact f3
    have f4' : w2.frozen? ⟨n, 0, none⟩ = false := by rw [hw2]; exact f4
    have f5' : w2.frozen? ⟨m, 0, none⟩ = false := by rw [hw2]; exact f5
    have HS2 : Hid (Nd w2 s sb a (some ⟨n, 0, none⟩) k v) := Lib.hid (by rw [hw2]; exact HS.out)
    have HN2 : Hid (Nd w2 n nb (some ⟨m, 0, none⟩) e k2 v2) := Lib.hid (by rw [hw2]; exact HN.out)
    have HM2 : Hid (Nd w2 m (-1) ml mr mk mv) := Lib.hid (by rw [hw2]; exact HM.out)
    have HF2 : Hid (Fr [s, n, m] [s, n, m] w w2) := Lib.hid (by rw [hw2]; exact (Fr.refl _ w).drewN nq)
    clear hw2 c3 c4 c5 f3 f4 f5 c1 c2 HS HN HM
    go_wp2_with fail
    go_end0
    exact ⟨rfl, ((HS2.out.setB 0).oth h1 _).oth h2 _, ((HN2.out.oth g1 _).setB 1).oth h3 _, ((HM2.out.oth g2 _).oth g3 _).setB 0, HF2.out.trans (((Fr.store w2 (F := [s, n, m]) (a := ⟨s, 0, none⟩) (by simp) _).trans (Fr.store _ (F := [s, n, m]) (a := ⟨n, 0, none⟩) (by simp) _)).trans (Fr.store _ (F := [s, n, m]) (a := ⟨m, 0, none⟩) (by simp) _))⟩
  · go_enter Try.func58, Try.ntmps58
    go_wp2_with fail
    go_quiet ((go_at_call 57; exact Calls.quiet_of_same (HO.out 1 (by omega) (by omega) _)))
    obtain ⟨w2, hw2⟩ : ∃ w2, w2 = w.drewN nq := ⟨_, rfl⟩
    rw [← hw2]
    have c3' : w2.cell? ⟨s, 0, none⟩ = some (.int .i8 sb) := by rw [hw2]; exact c3
    have c4' : w2.cell? ⟨n, 0, none⟩ = some (.int .i8 nb) := by rw [hw2]; exact c4
    have c5' : w2.cell? ⟨m, 0, none⟩ = some (.int .i8 (0)) := by rw [hw2]; exact c5
    have f3' : w2.frozen? ⟨s, 0, none⟩ = false := by rw [hw2]; exact f3
    have f4' : w2.frozen? ⟨n, 0, none⟩ = false := by rw [hw2]; exact f4
    have f5' : w2.frozen? ⟨m, 0, none⟩ = false := by rw [hw2]; exact f5
    have HS2 : Hid (Nd w2 s sb a (some ⟨n, 0, none⟩) k v) := Lib.hid (by rw [hw2]; exact HS.out)
    have HN2 : Hid (Nd w2 n nb (some ⟨m, 0, none⟩) e k2 v2) := Lib.hid (by rw [hw2]; exact HN.out)
    have HM2 : Hid (Nd w2 m (0) ml mr mk mv) := Lib.hid (by rw [hw2]; exact HM.out)
    have HF2 : Hid (Fr [s, n, m] [s, n, m] w w2) := Lib.hid (by rw [hw2]; exact (Fr.refl _ w).drewN nq)
    clear hw2 c3 c4 c5 f3 f4 f5 c1 c2 HS HN HM
    go_wp2_with fail
    go_end0
    exact ⟨rfl, ((HS2.out.setB 0).oth h1 _).oth h2 _, ((HN2.out.oth g1 _).setB 0).oth h3 _, ((HM2.out.oth g2 _).oth g3 _).setB 0, HF2.out.trans (((Fr.store w2 (F := [s, n, m]) (a := ⟨s, 0, none⟩) (by simp) _).trans (Fr.store _ (F := [s, n, m]) (a := ⟨n, 0, none⟩) (by simp) _)).trans (Fr.store _ (F := [s, n, m]) (a := ⟨m, 0, none⟩) (by simp) _))⟩
  · go_enter Try.func58, Try.ntmps58
    go_wp2_with fail
    go_quiet ((go_at_call 57; exact Calls.quiet_of_same (HO.out 1 (by omega) (by omega) _)))
    obtain ⟨w2, hw2⟩ : ∃ w2, w2 = w.drewN nq := ⟨_, rfl⟩
    rw [← hw2]
    have c3' : w2.cell? ⟨s, 0, none⟩ = some (.int .i8 sb) := by rw [hw2]; exact c3
    have c4' : w2.cell? ⟨n, 0, none⟩ = some (.int .i8 nb) := by rw [hw2]; exact c4
    have c5' : w2.cell? ⟨m, 0, none⟩ = some (.int .i8 (1)) := by rw [hw2]; exact c5
    have f3' : w2.frozen? ⟨s, 0, none⟩ = false := by rw [hw2]; exact f3
    have f4' : w2.frozen? ⟨n, 0, none⟩ = false := by rw [hw2]; exact f4
    have f5' : w2.frozen? ⟨m, 0, none⟩ = false := by rw [hw2]; exact f5
    have HS2 : Hid (Nd w2 s sb a (some ⟨n, 0, none⟩) k v) := Lib.hid (by rw [hw2]; exact HS.out)
    have HN2 : Hid (Nd w2 n nb (some ⟨m, 0, none⟩) e k2 v2) := Lib.hid (by rw [hw2]; exact HN.out)
    have HM2 : Hid (Nd w2 m (1) ml mr mk mv) := Lib.hid (by rw [hw2]; exact HM.out)
    have HF2 : Hid (Fr [s, n, m] [s, n, m] w w2) := Lib.hid (by rw [hw2]; exact (Fr.refl _ w).drewN nq)
    clear hw2 c3 c4 c5 f3 f4 f5 c1 c2 HS HN HM
    go_wp2_with fail
    go_end0
    exact ⟨rfl, ((HS2.out.setB (-1)).oth h1 _).oth h2 _, ((HN2.out.oth g1 _).setB 0).oth h3 _, ((HM2.out.oth g2 _).oth g3 _).setB 0, HF2.out.trans (((Fr.store w2 (F := [s, n, m]) (a := ⟨s, 0, none⟩) (by simp) _).trans (Fr.store _ (F := [s, n, m]) (a := ⟨n, 0, none⟩) (by simp) _)).trans (Fr.store _ (F := [s, n, m]) (a := ⟨m, 0, none⟩) (by simp) _))⟩
set_option maxRecDepth 100000 in
theorem ib11_any (s n : Nat) (sb : Int) (a c e : Option Addr) (k v k2 v2 : Int) (w : World) (hs : Nd w s sb a (some ⟨n, 0, none⟩) k v) (hn : Nd w n 1 c e k2 v2) (h1 : s ≠ n) :
    Calls Try.prog 50 #[.pointer (some ⟨s, 0, none⟩), .int .i64 1] w fun e' w' => e' = .returned (.pointer (some ⟨n, 0, none⟩)) ∧ Nd w' s 0 a c k v ∧ Nd w' n 0 (some ⟨s, 0, none⟩) e k2 v2 ∧ Fr [s, n] [s, n] w w' := by
  have c1 : w.cell? ⟨s, 2, none⟩ = some (.pointer (some ⟨n, 0, none⟩)) := Blk.cell hs 2 rfl
  have c3 : w.cell? ⟨s, 0, none⟩ = some (.int .i8 sb) := Blk.cell hs 0 rfl
  have c4 : w.cell? ⟨n, 0, none⟩ = some (.int .i8 1) := Blk.cell hn 0 rfl
  have f3 : w.frozen? ⟨s, 0, none⟩ = false := Blk.free hs 0
  have f4 : w.frozen? ⟨n, 0, none⟩ = false := Blk.free hn 0
  have g1 : ¬ n = s := fun e => h1 e.symm
  have HS := Lib.hid hs
  have HN := Lib.hid hn
  have HO := Lib.hid opp_any
  have HR := Lib.hid (fun w' h => rot0_any s n 0 0 a c e k v k2 v2 w' h)
  clear hs hn
  go_enter Try.func50, Try.ntmps50
  go_wp2_with fail
  refine (HO.out 1 (by omega) (by omega) _).mono ?_
  rintro e' w' ⟨rfl, rfl⟩
  go_wp2_with fail
  refine Calls.mono (HR.out _ ((HS.out.setB 0).oth h1 _) ((HN.out.oth g1 _).setB 0) h1) ?_
  rintro e' w2 ⟨rfl, hs2, hn2, hf2⟩
  have HS2 := Lib.hid hs2
  have HN2 := Lib.hid hn2
  have HF2 := Lib.hid hf2
  clear hs2 hn2 hf2
  go_wp2_with fail
  go_ret
  exact ⟨rfl, HS2.out, HN2.out, ((Fr.store _ (F := [s, n]) (a := ⟨s, 0, none⟩) (by simp) _).trans (Fr.store _ (F := [s, n]) (a := ⟨n, 0, none⟩) (by simp) _)).trans HF2.out⟩

set_option maxRecDepth 100000 in
theorem ib12_any (s n m : Nat) (sb nb mb : Int) (a e ml mr : Option Addr) (k v k2 v2 mk mv : Int) (w : World) (hs : Nd w s sb a (some ⟨n, 0, none⟩) k v) (hn : Nd w n nb (some ⟨m, 0, none⟩) e k2 v2) (hm : Nd w m mb ml mr mk mv) (h1 : s ≠ n) (h2 : s ≠ m) (h3 : n ≠ m) (hnb : nb ≠ 1) (hmb : -1 ≤ mb ∧ mb ≤ 1) :
    Calls Try.prog 50 #[.pointer (some ⟨s, 0, none⟩), .int .i64 1] w fun e' w' => e' = .returned (.pointer (some ⟨m, 0, none⟩)) ∧ Nd w' s (aS1 mb) a ml k v ∧ Nd w' n (aN1 mb) mr e k2 v2 ∧ Nd w' m 0 (some ⟨s, 0, none⟩) (some ⟨n, 0, none⟩) mk mv ∧ Fr [s, n, m] [s, n, m] w w' := by
  have c1 : w.cell? ⟨s, 2, none⟩ = some (.pointer (some ⟨n, 0, none⟩)) := Blk.cell hs 2 rfl
  have c4 : w.cell? ⟨n, 0, none⟩ = some (.int .i8 nb) := Blk.cell hn 0 rfl
  have t0 : (nb == 1) = false := by rw [beq_eq_false_iff_ne]; exact hnb
  have ha := adj1_any s n m sb nb mb a e ml mr k v k2 v2 mk mv w hs hn hm h1 h2 h3 hmb
  obtain ⟨S, hS⟩ : ∃ S, (aS1 mb) = S := ⟨_, rfl⟩
  obtain ⟨NB, hNB⟩ : ∃ S, (aN1 mb) = S := ⟨_, rfl⟩
  rw [hS, hNB] at ha
  rw [hS, hNB]
  have HA := Lib.hid ha
  have H1 := Lib.hid h1
  have H2 := Lib.hid h2
  have H3 := Lib.hid h3
  have HO := Lib.hid opp_any
  have HR := Lib.hid (fun w' h => drot0_any s n m S NB 0 a e ml mr k v k2 v2 mk mv w' h)
  clear hs hn hm ha h1 h2 h3 hS hNB hnb hmb
  go_enter Try.func50, Try.ntmps50
  go_wp2_with fail
  refine HA.out.mono ?_
  rintro e' w1 ⟨rfl, hs1, hn1, hm1, hf1⟩
  have HS1 := Lib.hid hs1
  have HN1 := Lib.hid hn1
  have HM1 := Lib.hid hm1
  have HF1 := Lib.hid hf1
  clear hs1 hn1 hm1 hf1
  go_wp2_with fail
  refine (HO.out 1 (by omega) (by omega) _).mono ?_
  rintro e' w' ⟨rfl, rfl⟩
  go_wp2_with fail
  refine Calls.mono (HR.out _ HS1.out HN1.out HM1.out H1.out H2.out H3.out) ?_
  rintro e' w2 ⟨rfl, hs2, hn2, hm2, hf2⟩
  have HS2 := Lib.hid hs2
  have HN2 := Lib.hid hn2
  have HM2 := Lib.hid hm2
  have HF2 := Lib.hid hf2
  clear hs2 hn2 hm2 hf2
  go_wp2_with fail
  go_ret
  exact ⟨rfl, HS2.out, HN2.out, HM2.out, HF1.out.trans HF2.out⟩

set_option maxRecDepth 100000 in
theorem adj0_any (s n m : Nat) (sb nb mb : Int) (a e ml mr : Option Addr) (k v k2 v2 mk mv : Int) (w : World) (hs : Nd w s sb (some ⟨n, 0, none⟩) a k v) (hn : Nd w n nb e (some ⟨m, 0, none⟩) k2 v2) (hm : Nd w m mb mr ml mk mv) (h1 : s ≠ n) (h2 : s ≠ m) (h3 : n ≠ m) (hmb : -1 ≤ mb ∧ mb ≤ 1) :
    Calls Try.prog 58 #[.pointer (some ⟨s, 0, none⟩), .int .i64 0, .int .i64 (-1)] w fun e' w' => e' = .returned (.tuple #[]) ∧ Nd w' s (aS0 mb) (some ⟨n, 0, none⟩) a k v ∧ Nd w' n (aN0 mb) e (some ⟨m, 0, none⟩) k2 v2 ∧ Nd w' m 0 mr ml mk mv ∧ Fr [s, n, m] [s, n, m] w w' := by
  have c1 : w.cell? ⟨s, 1, none⟩ = some (.pointer (some ⟨n, 0, none⟩)) := Blk.cell hs 1 rfl
  have c2 : w.cell? ⟨n, 2, none⟩ = some (.pointer (some ⟨m, 0, none⟩)) := Blk.cell hn 2 rfl
  have c3 : w.cell? ⟨s, 0, none⟩ = some (.int .i8 sb) := Blk.cell hs 0 rfl
  have c4 : w.cell? ⟨n, 0, none⟩ = some (.int .i8 nb) := Blk.cell hn 0 rfl
  have c5 : w.cell? ⟨m, 0, none⟩ = some (.int .i8 mb) := Blk.cell hm 0 rfl
  have f3 : w.frozen? ⟨s, 0, none⟩ = false := Blk.free hs 0
  have f4 : w.frozen? ⟨n, 0, none⟩ = false := Blk.free hn 0
  have f5 : w.frozen? ⟨m, 0, none⟩ = false := Blk.free hm 0
  have g1 : ¬ n = s := fun e => h1 e.symm
  have g2 : ¬ m = s := fun e => h2 e.symm
  have g3 : ¬ m = n := fun e => h3 e.symm
  have HS := Lib.hid hs
  have HN := Lib.hid hn
  have HM := Lib.hid hm
  have HO := Lib.hid opp_any
  have hmc : mb = -1 ∨ mb = 0 ∨ mb = 1 := by omega
  clear hs hn hm hmb
  rcases hmc with rfl | rfl | rfl
  · go_enter Try.func58, Try.ntmps58
    go_wp2_with fail
    go_quiet ((go_at_call 57; exact Calls.quiet_of_same (HO.out 0 (by omega) (by omega) _)))
    obtain ⟨w2, hw2⟩ : ∃ w2, w2 = w.drewN nq := ⟨_, rfl⟩
    rw [← hw2]
    have c3' : w2.cell? ⟨s, 0, none⟩ = some (.int .i8 sb) := by rw [hw2]; exact c3
    have c4' : w2.cell? ⟨n, 0, none⟩ = some (.int .i8 nb) := by rw [hw2]; exact c4
    have c5' : w2.cell? ⟨m, 0, none⟩ = some (.int .i8 (-1)) := by rw [hw2]; exact c5
    have f3' : w2.frozen? ⟨s, 0, none⟩ = false := by rw [hw2]; exact f3
    have f4' : w2.frozen? ⟨n, 0, none⟩ = false := by rw [hw2]; exact f4
    have f5' : w2.frozen? ⟨m, 0, none⟩ = false := by rw [hw2]; exact f5
    have HS2 : Hid (Nd w2 s sb (some ⟨n, 0, none⟩) a k v) := Lib.hid (by rw [hw2]; exact HS.out)
    have HN2 : Hid (Nd w2 n nb e (some ⟨m, 0, none⟩) k2 v2) := Lib.hid (by rw [hw2]; exact HN.out)
    have HM2 : Hid (Nd w2 m (-1) mr ml mk mv) := Lib.hid (by rw [hw2]; exact HM.out)
    have HF2 : Hid (Fr [s, n, m] [s, n, m] w w2) := Lib.hid (by rw [hw2]; exact (Fr.refl _ w).drewN nq)
    clear hw2 c3 c4 c5 f3 f4 f5 c1 c2 HS HN HM
    go_wp2_with fail
    go_end0
    exact ⟨rfl, ((HS2.out.setB 1).oth h1 _).oth h2 _, ((HN2.out.oth g1 _).setB 0).oth h3 _, ((HM2.out.oth g2 _).oth g3 _).setB 0, HF2.out.trans (((Fr.store w2 (F := [s, n, m]) (a := ⟨s, 0, none⟩) (by simp) _).trans (Fr.store _ (F := [s, n, m]) (a := ⟨n, 0, none⟩) (by simp) _)).trans (Fr.store _ (F := [s, n, m]) (a := ⟨m, 0, none⟩) (by simp) _))⟩
  · go_enter Try.func58, Try.ntmps58
    go_wp2_with fail
    go_quiet ((go_at_call 57; exact Calls.quiet_of_same (HO.out 0 (by omega) (by omega) _)))
    obtain ⟨w2, hw2⟩ : ∃ w2, w2 = w.drewN nq := ⟨_, rfl⟩
    rw [← hw2]
    have c3' : w2.cell? ⟨s, 0, none⟩ = some (.int .i8 sb) := by rw [hw2]; exact c3
    have c4' : w2.cell? ⟨n, 0, none⟩ = some (.int .i8 nb) := by rw [hw2]; exact c4
    have c5' : w2.cell? ⟨m, 0, none⟩ = some (.int .i8 (0)) := by rw [hw2]; exact c5
    have f3' : w2.frozen? ⟨s, 0, none⟩ = false := by rw [hw2]; exact f3
    have f4' : w2.frozen? ⟨n, 0, none⟩ = false := by rw [hw2]; exact f4
    have f5' : w2.frozen? ⟨m, 0, none⟩ = false := by rw [hw2]; exact f5
    have HS2 : Hid (Nd w2 s sb (some ⟨n, 0, none⟩) a k v) := Lib.hid (by rw [hw2]; exact HS.out)
    have HN2 : Hid (Nd w2 n nb e (some ⟨m, 0, none⟩) k2 v2) := Lib.hid (by rw [hw2]; exact HN.out)
    have HM2 : Hid (Nd w2 m (0) mr ml mk mv) := Lib.hid (by rw [hw2]; exact HM.out)
    have HF2 : Hid (Fr [s, n, m] [s, n, m] w w2) := Lib.hid (by rw [hw2]; exact (Fr.refl _ w).drewN nq)
    clear hw2 c3 c4 c5 f3 f4 f5 c1 c2 HS HN HM
    go_wp2_with fail
    go_end0
    exact ⟨rfl, ((HS2.out.setB 0).oth h1 _).oth h2 _, ((HN2.out.oth g1 _).setB 0).oth h3 _, ((HM2.out.oth g2 _).oth g3 _).setB 0, HF2.out.trans (((Fr.store w2 (F := [s, n, m]) (a := ⟨s, 0, none⟩) (by simp) _).trans (Fr.store _ (F := [s, n, m]) (a := ⟨n, 0, none⟩) (by simp) _)).trans (Fr.store _ (F := [s, n, m]) (a := ⟨m, 0, none⟩) (by simp) _))⟩
  · go_enter Try.func58, Try.ntmps58
    go_wp2_with fail
    go_quiet ((go_at_call 57; exact Calls.quiet_of_same (HO.out 0 (by omega) (by omega) _)))
    obtain ⟨w2, hw2⟩ : ∃ w2, w2 = w.drewN nq := ⟨_, rfl⟩
    rw [← hw2]
    have c3' : w2.cell? ⟨s, 0, none⟩ = some (.int .i8 sb) := by rw [hw2]; exact c3
    have c4' : w2.cell? ⟨n, 0, none⟩ = some (.int .i8 nb) := by rw [hw2]; exact c4
    have c5' : w2.cell? ⟨m, 0, none⟩ = some (.int .i8 (1)) := by rw [hw2]; exact c5
    have f3' : w2.frozen? ⟨s, 0, none⟩ = false := by rw [hw2]; exact f3
    have f4' : w2.frozen? ⟨n, 0, none⟩ = false := by rw [hw2]; exact f4
    have f5' : w2.frozen? ⟨m, 0, none⟩ = false := by rw [hw2]; exact f5
    have HS2 : Hid (Nd w2 s sb (some ⟨n, 0, none⟩) a k v) := Lib.hid (by rw [hw2]; exact HS.out)
    have HN2 : Hid (Nd w2 n nb e (some ⟨m, 0, none⟩) k2 v2) := Lib.hid (by rw [hw2]; exact HN.out)
    have HM2 : Hid (Nd w2 m (1) mr ml mk mv) := Lib.hid (by rw [hw2]; exact HM.out)
    have HF2 : Hid (Fr [s, n, m] [s, n, m] w w2) := Lib.hid (by rw [hw2]; exact (Fr.refl _ w).drewN nq)
    clear hw2 c3 c4 c5 f3 f4 f5 c1 c2 HS HN HM
    go_wp2_with fail
    go_end0
    exact ⟨rfl, ((HS2.out.setB 0).oth h1 _).oth h2 _, ((HN2.out.oth g1 _).setB (-1)).oth h3 _, ((HM2.out.oth g2 _).oth g3 _).setB 0, HF2.out.trans (((Fr.store w2 (F := [s, n, m]) (a := ⟨s, 0, none⟩) (by simp) _).trans (Fr.store _ (F := [s, n, m]) (a := ⟨n, 0, none⟩) (by simp) _)).trans (Fr.store _ (F := [s, n, m]) (a := ⟨m, 0, none⟩) (by simp) _))⟩
set_option maxRecDepth 100000 in
theorem ib01_any (s n : Nat) (sb : Int) (a c e : Option Addr) (k v k2 v2 : Int) (w : World) (hs : Nd w s sb (some ⟨n, 0, none⟩) a k v) (hn : Nd w n (-1) e c k2 v2) (h1 : s ≠ n) :
    Calls Try.prog 50 #[.pointer (some ⟨s, 0, none⟩), .int .i64 0] w fun e' w' => e' = .returned (.pointer (some ⟨n, 0, none⟩)) ∧ Nd w' s 0 c a k v ∧ Nd w' n 0 e (some ⟨s, 0, none⟩) k2 v2 ∧ Fr [s, n] [s, n] w w' := by
  have c1 : w.cell? ⟨s, 1, none⟩ = some (.pointer (some ⟨n, 0, none⟩)) := Blk.cell hs 1 rfl
  have c3 : w.cell? ⟨s, 0, none⟩ = some (.int .i8 sb) := Blk.cell hs 0 rfl
  have c4 : w.cell? ⟨n, 0, none⟩ = some (.int .i8 (-1)) := Blk.cell hn 0 rfl
  have f3 : w.frozen? ⟨s, 0, none⟩ = false := Blk.free hs 0
  have f4 : w.frozen? ⟨n, 0, none⟩ = false := Blk.free hn 0
  have g1 : ¬ n = s := fun e => h1 e.symm
  have HS := Lib.hid hs
  have HN := Lib.hid hn
  have HO := Lib.hid opp_any
  have HR := Lib.hid (fun w' h => rot1_any s n 0 0 a c e k v k2 v2 w' h)
  clear hs hn
  go_enter Try.func50, Try.ntmps50
  go_wp2_with fail
  refine (HO.out 0 (by omega) (by omega) _).mono ?_
  rintro e' w' ⟨rfl, rfl⟩
  go_wp2_with fail
  refine Calls.mono (HR.out _ ((HS.out.setB 0).oth h1 _) ((HN.out.oth g1 _).setB 0) h1) ?_
  rintro e' w2 ⟨rfl, hs2, hn2, hf2⟩
  have HS2 := Lib.hid hs2
  have HN2 := Lib.hid hn2
  have HF2 := Lib.hid hf2
  clear hs2 hn2 hf2
  go_wp2_with fail
  go_ret
  exact ⟨rfl, HS2.out, HN2.out, ((Fr.store _ (F := [s, n]) (a := ⟨s, 0, none⟩) (by simp) _).trans (Fr.store _ (F := [s, n]) (a := ⟨n, 0, none⟩) (by simp) _)).trans HF2.out⟩

set_option maxRecDepth 100000 in
theorem ib02_any (s n m : Nat) (sb nb mb : Int) (a e ml mr : Option Addr) (k v k2 v2 mk mv : Int) (w : World) (hs : Nd w s sb (some ⟨n, 0, none⟩) a k v) (hn : Nd w n nb e (some ⟨m, 0, none⟩) k2 v2) (hm : Nd w m mb mr ml mk mv) (h1 : s ≠ n) (h2 : s ≠ m) (h3 : n ≠ m) (hnb : nb ≠ (-1)) (hmb : -1 ≤ mb ∧ mb ≤ 1) :
    Calls Try.prog 50 #[.pointer (some ⟨s, 0, none⟩), .int .i64 0] w fun e' w' => e' = .returned (.pointer (some ⟨m, 0, none⟩)) ∧ Nd w' s (aS0 mb) ml a k v ∧ Nd w' n (aN0 mb) e mr k2 v2 ∧ Nd w' m 0 (some ⟨n, 0, none⟩) (some ⟨s, 0, none⟩) mk mv ∧ Fr [s, n, m] [s, n, m] w w' := by
  have c1 : w.cell? ⟨s, 1, none⟩ = some (.pointer (some ⟨n, 0, none⟩)) := Blk.cell hs 1 rfl
  have c4 : w.cell? ⟨n, 0, none⟩ = some (.int .i8 nb) := Blk.cell hn 0 rfl
  have t0 : (nb == (-1)) = false := by rw [beq_eq_false_iff_ne]; exact hnb
  have ha := adj0_any s n m sb nb mb a e ml mr k v k2 v2 mk mv w hs hn hm h1 h2 h3 hmb
  obtain ⟨S, hS⟩ : ∃ S, (aS0 mb) = S := ⟨_, rfl⟩
  obtain ⟨NB, hNB⟩ : ∃ S, (aN0 mb) = S := ⟨_, rfl⟩
  rw [hS, hNB] at ha
  rw [hS, hNB]
  have HA := Lib.hid ha
  have H1 := Lib.hid h1
  have H2 := Lib.hid h2
  have H3 := Lib.hid h3
  have HO := Lib.hid opp_any
  have HR := Lib.hid (fun w' h => drot1_any s n m S NB 0 a e ml mr k v k2 v2 mk mv w' h)
  clear hs hn hm ha h1 h2 h3 hS hNB hnb hmb
  go_enter Try.func50, Try.ntmps50
  go_wp2_with fail
  refine HA.out.mono ?_
  rintro e' w1 ⟨rfl, hs1, hn1, hm1, hf1⟩
  have HS1 := Lib.hid hs1
  have HN1 := Lib.hid hn1
  have HM1 := Lib.hid hm1
  have HF1 := Lib.hid hf1
  clear hs1 hn1 hm1 hf1
  go_wp2_with fail
  refine (HO.out 0 (by omega) (by omega) _).mono ?_
  rintro e' w' ⟨rfl, rfl⟩
  go_wp2_with fail
  refine Calls.mono (HR.out _ HS1.out HN1.out HM1.out H1.out H2.out H3.out) ?_
  rintro e' w2 ⟨rfl, hs2, hn2, hm2, hf2⟩
  have HS2 := Lib.hid hs2
  have HN2 := Lib.hid hn2
  have HM2 := Lib.hid hm2
  have HF2 := Lib.hid hf2
  clear hs2 hn2 hm2 hf2
  go_wp2_with fail
  go_ret
  exact ⟨rfl, HS2.out, HN2.out, HM2.out, HF1.out.trans HF2.out⟩

end Go.Proofs.Ytidekgmpbcnfmaa
