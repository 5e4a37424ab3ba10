/- slices.ContainsFunc of a script's steps that delete. -/
import Derived.Test.YtnfkjcopeljknaaAvOpen
namespace Go.Proofs.Ytnfkjcopeljknaa
set_option linter.unusedVariables false
open Go.RowKit Avm

set_option maxRecDepth 100000 in
theorem isdel_any (op n : Int) (a : Option Addr) (m c : Nat) (w : World) :
    Calls Try.prog 14 #[.agg #[.int .i64 op, .int .i64 n, .slice a m c]] w fun e w' => e = .returned (.bool (op == 2)) ∧ Below w.heap.size w w' := by
  go_enter Try.func14, Try.ntmps14
  go_wp2_with fail
  go_ret
  exact ⟨rfl, (Below.refl _ _).alloc (Nat.le_refl _) _⟩

def NoDel (S : List RStp) : Prop := ∀ s ∈ S, s.1 ≠ 2
def NoLoop (S : List RStp) (n : Nat) (w : World) (k : Nat) (idx : Value) (wr : World) : Prop :=
  ∃ i : Nat, idx = .int .i64 (i : Int) ∧ i + k = n ∧ NoDel (S.take i) ∧ Below w.heap.size w wr

set_option maxRecDepth 100000 in
set_option maxHeartbeats 1000000 in
theorem indexdel_any (v fv : Value) (hfv : fv = .func (.func 14) #[] #[]) (R : List (List Value)) (S : List RStp) (w : World) (hv : Rw 3 w v R) (hst : RStepsAt w R S) (hn : S.length ≤ 2147483647) :
    Calls Try.prog 25 #[v, fv] w fun e w' => ∃ x : Int, e = .returned (.int .i64 x) ∧ (decide (0 ≤ x) = false → NoDel S) ∧ Below w.heap.size w w' := by
  subst hfv
  obtain ⟨a, n, cap, rfl, _⟩ := id hv
  have hsm := hv.some
  obtain ⟨hla, hc, hm, hr⟩ := hsm
  have hnS : S.length = n := by rw [← hst.1, hla]
  rw [hnS] at hn
  have HV := Lib.hid hv
  have HST := Lib.hid hst
  have HNS := Lib.hid hnS
  clear hv hst hnS hla hc hm
  go_enter Try.func25, Try.ntmps25
  go_wp2_with fail
  go_loopg [5, 8] n (fun k s5 idx wr => NoLoop S n w k idx wr)
  case atStart => exact ⟨0, rfl, by omega, fun s hs => by simp at hs, Below.refl _ _⟩
  case round =>
    obtain ⟨i, rfl, hik, hno, hbel⟩ := hrel
    have HB := Lib.hid hbel
    have HNO := Lib.hid hno
    have hsz := hbel.size
    clear hbel hno
    by_cases hi : i < n
    · cases gk with
      | zero => omega
      | succ k =>
        obtain ⟨b1, o1, rfl⟩ := hr (by omega)
        obtain ⟨op, frm, es, va, vc, hS, d0, d1, d2, hrw, hm9⟩ := step_cells HV.out HST.out i hi
        rw [← HB.out.cell (World.block_lt_of_cell? w _ d0)] at d0
        rw [← HB.out.cell (World.block_lt_of_cell? w _ d1)] at d1
        rw [← HB.out.cell (World.block_lt_of_cell? w _ d2)] at d2
        have htk : S.take (i + 1) = S.take i ++ [(op, frm, es)] := by
          obtain ⟨hlt, hge⟩ := List.getElem?_eq_some_iff.1 hS
          rw [List.take_succ_eq_append_getElem hlt, hge]
        obtain ⟨L, hL⟩ : ∃ L, es.length = L := ⟨_, rfl⟩
        rw [hL] at d2 hm9
        have HTK := Lib.hid htk
        have HC := Lib.hid (fun wx : World => isdel_any op frm va L vc wx)
        have i1 : (i : Int) < (n : Int) := by omega
        have i2 : (0 : Int) ≤ (i : Int) := by omega
        clear hr hS hrw hL htk hm9
        by_cases h2 : op = 2
        · have hb : (op == 2) = true := by simp [h2]
          rw [hb] at HC
          clear hb h2
          go_wp2_with fail
          refine (HC.out _).mono ?_
          rintro e w2 ⟨rfl, hb2⟩
          have HB2 := Lib.hid hb2
          clear hb2
          go_wp2_with fail
          go_ret
          exact ⟨(i : Int), rfl, (fun h => by simp at h), HB.out.trans (HB2.out.mono hsz)⟩
        · have hb : (op == 2) = false := by simp [h2]
          rw [hb] at HC
          have H2 := Lib.hid h2
          clear hb h2
          go_wp2_with fail
          refine (HC.out _).mono ?_
          rintro e w2 ⟨rfl, hb2⟩
          have HB2 := Lib.hid hb2
          clear hb2
          go_wp2_with fail
          go_roundg k
          case measure => omega
          case rel =>
            refine ⟨i + 1, by go_num, by omega, fun s hs => ?_, HB.out.trans (HB2.out.mono hsz)⟩
            rw [HTK.out] at hs
            rcases List.mem_append.1 hs with hs | hs
            · exact HNO.out s hs
            · rw [List.mem_singleton.1 hs]; exact H2.out
    · obtain rfl : i = n := by omega
      rw [List.take_of_length_le (by rw [HNS.out]; exact Nat.le_refl _)] at HNO
      go_wp2_with fail
      go_ret
      exact ⟨-1, rfl, fun _ => HNO.out, HB.out⟩

set_option maxRecDepth 100000 in
theorem containsdel_any (v fv : Value) (hfv : fv = .func (.func 14) #[] #[]) (R : List (List Value)) (S : List RStp) (w : World) (hv : Rw 3 w v R) (hst : RStepsAt w R S) (hn : S.length ≤ 2147483647) :
    Calls Try.prog 13 #[v, fv] w (SomeBool (fun b => b = false → NoDel S) w) := by
  have HI := Lib.hid (indexdel_any v fv hfv R S w hv hst hn)
  obtain ⟨a, n, cap, rfl, _⟩ := id hv
  clear hv hst hn hfv
  go_enter Try.func13, Try.ntmps13
  go_wp2_with fail
  refine HI.out.mono ?_
  rintro e w2 ⟨x, rfl, h1, h2⟩
  have H1 := Lib.hid h1
  have H2 := Lib.hid h2
  clear h1 h2 HI
  go_wp2_with fail
  go_ret
  exact ⟨_, rfl, H1.out, H2.out⟩
end Go.Proofs.Ytnfkjcopeljknaa
