/- Walk of laws.pqFew. -/
import Derived.Test.YtepjailijekepaaDoorPqRunsLaw
namespace Go.Proofs.YtepjailijekepaaDoor
set_option linter.unusedVariables false
open Go.RowKit
open Pqm

def FewLoop (n : Nat) (S : List Stp) (w : World) (k : Nat) (idx : Value) (wr : World) : Prop :=
  ∃ i : Nat, idx = .int .i64 (i : Int) ∧ i + k = n ∧ (∀ s ∈ S.take i, StOk s ∧ s.2.2.length ≤ 30) ∧ Below w.heap.size w wr

set_option maxRecDepth 100000 in
set_option maxHeartbeats 4000000 in
theorem few_any (v : Value) (R : List (List Value)) (S : List Stp) (w : World) (hv : Rw 3 w v R) (hst : StepsAt w R S) (hfit : S.length ≤ 2147483647) :
    Calls Tryd.prog 9 #[v] w (SomeBool (fun b => b = true → S.length ≤ 60 ∧ ∀ s ∈ S, StOk s ∧ s.2.2.length ≤ 30) w) := by
  obtain ⟨a, n, cap, rfl, _⟩ := id hv
  have hsm := hv.some
  obtain ⟨hla, hc, hm, hr⟩ := hsm
  have hnS : S.length = n := by rw [← hst.1, hla]
  have hmm : n ≤ 2147483647 := by omega
  have HV := Lib.hid hv
  have HST := Lib.hid hst
  have HNS := Lib.hid hnS
  clear hv hst hnS hla hfit
  go_enter Tryd.func9, Tryd.ntmps9
  go_wp2_with fail
  go_loopg [7] n (fun k idx wr => FewLoop n S w k idx wr)
  case atStart => exact ⟨0, rfl, by omega, by simp, Below.refl _ _⟩
  case round =>
    obtain ⟨i, rfl, hik, hgood, hbel⟩ := hrel
    have HB := Lib.hid hbel
    have HGD := Lib.hid hgood
    have hsz := hbel.size
    clear hbel hgood
    by_cases hi : i < n
    · cases gk with
      | zero => omega
      | succ k =>
        obtain ⟨b1, o1, rfl⟩ := hr (by omega)
        obtain ⟨op, sn, its, va, vc, hS, d0, d1, d2, hrw, hm9⟩ := step_cells HV.out HST.out i hi
        rw [← HB.out.cell (World.block_lt_of_cell? w _ d0)] at d0
        rw [← HB.out.cell (World.block_lt_of_cell? w _ d1)] at d1
        rw [← HB.out.cell (World.block_lt_of_cell? w _ d2)] at d2
        obtain ⟨L, hL⟩ : ∃ L, its.length = L := ⟨_, rfl⟩
        rw [hL] at d2 hm9
        unfold maxLen at hm9
        have HBZ : Hid (Below wr.heap.size wr (wr.alloc (.cells #[.int .i64 op, .int .i64 sn, .slice va L vc] 24))) := Lib.hid ((Below.refl _ _).alloc (Nat.le_refl _) _)
        have HSI := Lib.hid hS
        have HLL := Lib.hid hL
        clear hr hS hrw hL
        obtain ⟨B1, e1⟩ : ∃ B, decide (op < 1) = B := ⟨_, rfl⟩
        obtain ⟨B2, e2⟩ : ∃ B, decide (7 < op) = B := ⟨_, rfl⟩
        obtain ⟨B3, e3⟩ : ∃ B, decide (30 < (L : Int)) = B := ⟨_, rfl⟩
        obtain ⟨B4, e4⟩ : ∃ B, (op == 1) = B := ⟨_, rfl⟩
        obtain ⟨B5, e5⟩ : ∃ B, ((L : Int) == 0) = B := ⟨_, rfl⟩
        obtain ⟨B6, e6⟩ : ∃ B, (op == 2) = B := ⟨_, rfl⟩
        obtain ⟨B7, e7⟩ : ∃ B, decide (sn < 1) = B := ⟨_, rfl⟩
        obtain ⟨B8, e8⟩ : ∃ B, decide (1000 < sn) = B := ⟨_, rfl⟩
        have E1 := Lib.hid e1
        have E2 := Lib.hid e2
        have E3 := Lib.hid e3
        have E4 := Lib.hid e4
        have E5 := Lib.hid e5
        have E6 := Lib.hid e6
        have E7 := Lib.hid e7
        have E8 := Lib.hid e8
        cases B1 with
        | true =>
          go_wp2_with fail
          go_ret
          exact ⟨false, rfl, (fun h => by cases h), HB.out.trans (HBZ.out.mono hsz)⟩
        | false =>
          cases B2 with
          | true =>
            go_wp2_with fail
            go_ret
            exact ⟨false, rfl, (fun h => by cases h), HB.out.trans (HBZ.out.mono hsz)⟩
          | false =>
            cases B3 with
            | true =>
              go_wp2_with fail
              go_ret
              exact ⟨false, rfl, (fun h => by cases h), HB.out.trans (HBZ.out.mono hsz)⟩
            | false =>
              cases B4 with
              | true =>
                cases B5 with
                | true =>
                  go_wp2_with fail
                  go_ret
                  exact ⟨false, rfl, (fun h => by cases h), HB.out.trans (HBZ.out.mono hsz)⟩
                | false =>
                  cases B6 with
                  | true =>
                    cases B7 with
                    | true =>
                      go_wp2_with fail
                      go_ret
                      exact ⟨false, rfl, (fun h => by cases h), HB.out.trans (HBZ.out.mono hsz)⟩
                    | false =>
                      cases B8 with
                      | true =>
                        go_wp2_with fail
                        go_ret
                        exact ⟨false, rfl, (fun h => by cases h), HB.out.trans (HBZ.out.mono hsz)⟩
                      | false =>
                        go_wp2_with fail
                        go_roundg k
                        case measure => omega
                        case rel =>
                          refine ⟨i + 1, by go_num, by omega, fun s hs => ?_, HB.out.trans (HBZ.out.mono hsz)⟩
                          have hiS : i < S.length := by rw [HNS.out]; exact hi
                          rw [List.take_succ_eq_append_getElem hiS] at hs
                          rcases List.mem_append.1 hs with h | h
                          · exact HGD.out s h
                          · have h : s = S[i] := by simpa using h
                            have hSI := HSI.out
                            rw [List.getElem?_eq_getElem hiS] at hSI
                            injection hSI with hSI
                            rw [h, hSI]
                            have f1 := E1.out
                            have f2 := E2.out
                            have f3 := E3.out
                            have f4 := E4.out
                            have f5 := E5.out
                            have f6 := E6.out
                            have f7 := E7.out
                            have f8 := E8.out
                            have fl := HLL.out
                            simp only [decide_eq_false_iff_not, beq_eq_false_iff_ne, beq_iff_eq, decide_eq_true_eq, ne_eq] at f1 f2 f3 f4 f5 f6 f7 f8
                            refine ⟨⟨?_, ?_, fun h1 => ?_, fun h1 => ?_⟩, ?_⟩
                            · show 1 ≤ op; omega
                            · show op ≤ 7; omega
                            · have h1 : op = 1 := h1
                              intro h2
                              have h2 : its = [] := h2
                              rw [h2] at fl
                              simp at fl
                              omega
                            · have h1 : op = 2 := h1
                              show 1 ≤ sn ∧ sn ≤ 1000
                              omega
                            · show its.length ≤ 30; omega
                  | false =>
                    go_wp2_with fail
                    go_roundg k
                    case measure => omega
                    case rel =>
                      refine ⟨i + 1, by go_num, by omega, fun s hs => ?_, HB.out.trans (HBZ.out.mono hsz)⟩
                      have hiS : i < S.length := by rw [HNS.out]; exact hi
                      rw [List.take_succ_eq_append_getElem hiS] at hs
                      rcases List.mem_append.1 hs with h | h
                      · exact HGD.out s h
                      · have h : s = S[i] := by simpa using h
                        have hSI := HSI.out
                        rw [List.getElem?_eq_getElem hiS] at hSI
                        injection hSI with hSI
                        rw [h, hSI]
                        have f1 := E1.out
                        have f2 := E2.out
                        have f3 := E3.out
                        have f4 := E4.out
                        have f5 := E5.out
                        have f6 := E6.out
                        have f7 := E7.out
                        have f8 := E8.out
                        have fl := HLL.out
                        simp only [decide_eq_false_iff_not, beq_eq_false_iff_ne, beq_iff_eq, decide_eq_true_eq, ne_eq] at f1 f2 f3 f4 f5 f6 f7 f8
                        refine ⟨⟨?_, ?_, fun h1 => ?_, fun h1 => ?_⟩, ?_⟩
                        · show 1 ≤ op; omega
                        · show op ≤ 7; omega
                        · have h1 : op = 1 := h1
                          intro h2
                          have h2 : its = [] := h2
                          rw [h2] at fl
                          simp at fl
                          omega
                        · have h1 : op = 2 := h1
                          show 1 ≤ sn ∧ sn ≤ 1000
                          omega
                        · show its.length ≤ 30; omega
              | false =>
                cases B6 with
                | true =>
                  cases B7 with
                  | true =>
                    go_wp2_with fail
                    go_ret
                    exact ⟨false, rfl, (fun h => by cases h), HB.out.trans (HBZ.out.mono hsz)⟩
                  | false =>
                    cases B8 with
                    | true =>
                      go_wp2_with fail
                      go_ret
                      exact ⟨false, rfl, (fun h => by cases h), HB.out.trans (HBZ.out.mono hsz)⟩
                    | false =>
                      go_wp2_with fail
                      go_roundg k
                      case measure => omega
                      case rel =>
                        refine ⟨i + 1, by go_num, by omega, fun s hs => ?_, HB.out.trans (HBZ.out.mono hsz)⟩
                        have hiS : i < S.length := by rw [HNS.out]; exact hi
                        rw [List.take_succ_eq_append_getElem hiS] at hs
                        rcases List.mem_append.1 hs with h | h
                        · exact HGD.out s h
                        · have h : s = S[i] := by simpa using h
                          have hSI := HSI.out
                          rw [List.getElem?_eq_getElem hiS] at hSI
                          injection hSI with hSI
                          rw [h, hSI]
                          have f1 := E1.out
                          have f2 := E2.out
                          have f3 := E3.out
                          have f4 := E4.out
                          have f5 := E5.out
                          have f6 := E6.out
                          have f7 := E7.out
                          have f8 := E8.out
                          have fl := HLL.out
                          simp only [decide_eq_false_iff_not, beq_eq_false_iff_ne, beq_iff_eq, decide_eq_true_eq, ne_eq] at f1 f2 f3 f4 f5 f6 f7 f8
                          refine ⟨⟨?_, ?_, fun h1 => ?_, fun h1 => ?_⟩, ?_⟩
                          · show 1 ≤ op; omega
                          · show op ≤ 7; omega
                          · have h1 : op = 1 := h1
                            intro h2
                            have h2 : its = [] := h2
                            rw [h2] at fl
                            simp at fl
                            omega
                          · have h1 : op = 2 := h1
                            show 1 ≤ sn ∧ sn ≤ 1000
                            omega
                          · show its.length ≤ 30; omega
                | false =>
                  go_wp2_with fail
                  go_roundg k
                  case measure => omega
                  case rel =>
                    refine ⟨i + 1, by go_num, by omega, fun s hs => ?_, HB.out.trans (HBZ.out.mono hsz)⟩
                    have hiS : i < S.length := by rw [HNS.out]; exact hi
                    rw [List.take_succ_eq_append_getElem hiS] at hs
                    rcases List.mem_append.1 hs with h | h
                    · exact HGD.out s h
                    · have h : s = S[i] := by simpa using h
                      have hSI := HSI.out
                      rw [List.getElem?_eq_getElem hiS] at hSI
                      injection hSI with hSI
                      rw [h, hSI]
                      have f1 := E1.out
                      have f2 := E2.out
                      have f3 := E3.out
                      have f4 := E4.out
                      have f5 := E5.out
                      have f6 := E6.out
                      have f7 := E7.out
                      have f8 := E8.out
                      have fl := HLL.out
                      simp only [decide_eq_false_iff_not, beq_eq_false_iff_ne, beq_iff_eq, decide_eq_true_eq, ne_eq] at f1 f2 f3 f4 f5 f6 f7 f8
                      refine ⟨⟨?_, ?_, fun h1 => ?_, fun h1 => ?_⟩, ?_⟩
                      · show 1 ≤ op; omega
                      · show op ≤ 7; omega
                      · have h1 : op = 1 := h1
                        intro h2
                        have h2 : its = [] := h2
                        rw [h2] at fl
                        simp at fl
                        omega
                      · have h1 : op = 2 := h1
                        show 1 ≤ sn ∧ sn ≤ 1000
                        omega
                      · show its.length ≤ 30; omega
    · obtain ⟨I, hI⟩ : ∃ I, I = n := ⟨_, rfl⟩
      obtain rfl : i = I := by omega
      subst hI
      have hdd : decide ((i : Int) < (i : Int)) = false := by simp
      have htk := HGD.out
      rw [List.take_of_length_le (by rw [HNS.out]; exact Nat.le_refl _)] at htk
      have HTK := Lib.hid htk
      clear htk
      by_cases h60 : (i : Int) ≤ 60
      · have hd : decide ((i : Int) ≤ 60) = true := by simpa using h60
        go_wp2_with fail
        go_ret
        exact ⟨true, rfl, (fun _ => ⟨by rw [HNS.out]; omega, HTK.out⟩), HB.out⟩
      · have hd : decide ((i : Int) ≤ 60) = false := by simpa using h60
        go_wp2_with fail
        go_ret
        exact ⟨false, rfl, (fun h => by cases h), HB.out⟩
end Go.Proofs.YtepjailijekepaaDoor
