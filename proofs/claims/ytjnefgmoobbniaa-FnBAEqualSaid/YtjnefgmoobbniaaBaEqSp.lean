/- Walk of Equals at two sparse arrays, neither of them empty. -/
import Derived.Test.YtjnefgmoobbniaaBaTwoLaw
import Derived.Test.YtjnefgmoobbniaaBaIter
namespace Go.Proofs.Ytjnefgmoobbniaa
set_option linter.unusedVariables false
open Go.RowKit Bam

theorem pre_at {qs ps : Ps} (h : qs <+: ps) (j : Nat) (hj : j < qs.length) : j < ps.length ∧ ps.getD j (0, 0) = qs.getD j (0, 0) := by
  obtain ⟨r, rfl⟩ := h
  refine ⟨by rw [List.length_append]; omega, ?_⟩
  rw [List.getD_eq_getElem?_getD, List.getD_eq_getElem?_getD, List.getElem?_append_left hj]
theorem take_next {qs ps : Ps} {j : Nat} (h : qs.take j = ps.take j) (h1 : j < qs.length) (h2 : j < ps.length) (e : ps.getD j (0, 0) = qs.getD j (0, 0)) : qs.take (j + 1) = ps.take (j + 1) := by
  rw [List.take_succ_eq_append_getElem h1, List.take_succ_eq_append_getElem h2, h]
  rw [List.getD_eq_getElem?_getD, List.getD_eq_getElem?_getD, List.getElem?_eq_getElem h1, List.getElem?_eq_getElem h2] at e
  simp only [Option.getD_some] at e
  rw [e]
theorem capP_pos {ps : Ps} (h : 0 < ps.length) : 0 < capP ps := by
  unfold capP
  rcases List.eq_nil_or_concat ps with e | ⟨l, q, e⟩
  · rw [e] at h; simp at h
  · have e' : ps = l ++ [q] := by simpa using e
    rw [e', List.getLast?_concat]
    simp

theorem meth_sp_Capacity2 (x : Value) (w : World) : (method 254 86 x "Capacity").run Try.prog w = .ok (95, x) w := by kernel_rfl
theorem meth_sp_Blocks2 (x : Value) (w : World) : (method 254 86 x "Blocks").run Try.prog w = .ok (97, x) w := by kernel_rfl
theorem meth_it_Next2 (x : Value) (w : World) : (method 254 140 x "Next").run Try.prog w = .ok (129, x) w := by kernel_rfl
theorem meth_it_Value2 (x : Value) (w : World) : (method 254 140 x "Value").run Try.prog w = .ok (130, x) w := by kernel_rfl

def EqRel (ps qs : Ps) (n m it q : Nat) (w1 : World) (k : Nat) (s5 : Value) (wr : World) : Prop :=
  ∃ (j : Nat) (I : Int), s5 = .int .u64 (j : Int) ∧ I + 1 = (j : Int) ∧ j + k = m ∧ j ≤ n ∧ ItAt wr it q I ∧ qs.take j = ps.take j ∧ Fr [it] [it] w1 wr

set_option maxRecDepth 100000 in
set_option maxHeartbeats 4000000 in
theorem eqsp_any (p q : Nat) (F G : List Nat) (ps qs : Ps) (w : World) (h : SpAt w p F ps) (k : SpAt w q G qs) (ho1 : Ok ps) (ho2 : Ok qs) (nz : Nz qs) (hn : ps.length ≤ 1000) (hm : qs.length ≤ 1000) (h0 : 0 < ps.length) (h1 : 0 < qs.length) (hsm : ∀ x ∈ qs, x.1 < 144115188075855872) :
    Calls Try.prog 100 #[.pointer (some ⟨p, 0, none⟩), .iface 86 (.pointer (some ⟨q, 0, none⟩))] w fun e w' =>
      ∃ b : Bool, e = .returned (.bool b) ∧ (b = true ↔ qs <+: ps) ∧ Below w.heap.size w w' := by
  have hc1 := meth_sp_Capacity2 (.pointer (some ⟨q, 0, none⟩))
  have hc2 := meth_sp_Blocks2 (.pointer (some ⟨q, 0, none⟩))
  have hcap := capacity_any q G qs w k hm hsm
  have hpos := capP_pos h1
  obtain ⟨C, hC⟩ : ∃ C, capP qs = C := ⟨_, rfl⟩
  rw [hC] at hcap hpos
  have t0 : ((C : Int) == 0) = false := by rw [beq_eq_false_iff_ne]; omega
  have HCAP := Lib.hid hcap
  have HP := Lib.hid h
  have HQ := Lib.hid k
  have HO1 := Lib.hid ho1
  have HO2 := Lib.hid ho2
  have HNZ := Lib.hid nz
  obtain ⟨n, hN⟩ : ∃ n, ps.length = n := ⟨_, rfl⟩
  obtain ⟨m, hM⟩ : ∃ m, qs.length = m := ⟨_, rfl⟩
  rw [hN] at hn h0
  rw [hM] at hm h1
  have HN := Lib.hid hN
  have HM := Lib.hid hM
  clear h k ho1 ho2 nz hsm hcap hC hN hM
  go_enter Try.func100, Try.ntmps100
  go_wp2_with fail
  refine HCAP.out.mono ?_
  rintro e w' ⟨rfl, nq, rfl⟩
  go_wp2_with fail
  refine (blocks_sp q _).mono ?_
  rintro e w1 ⟨rfl, hit, hb1⟩
  obtain ⟨it, hIT⟩ : ∃ it, (w.drewN nq).heap.size = it := ⟨_, rfl⟩
  have hitw : w.heap.size = it := hIT
  have hb1' : Below w.heap.size w w1 := (below_drewN (Below.refl _ _) nq).trans hb1
  rw [hIT] at hit ⊢
  have HIT := Lib.hid hit
  have HB1 := Lib.hid hb1'
  have HITW := Lib.hid hitw
  have hsp1 := HP.out.below hb1'
  have hsq1 := HQ.out.below hb1'
  have HP1 := Lib.hid hsp1
  have HQ1 := Lib.hid hsq1
  have hlp := HP.out.lt
  have hlq := HQ.out.lt
  have HLP := Lib.hid (show ∀ x ∈ F, x ∉ [it] from fun x hx hx2 => by rw [List.mem_singleton] at hx2; have := hlp x hx; omega)
  have HLQ := Lib.hid (show ∀ x ∈ G, x ∉ [it] from fun x hx hx2 => by rw [List.mem_singleton] at hx2; have := hlq x hx; omega)
  have hn1 := meth_it_Next2 (.pointer (some ⟨it, 0, none⟩))
  have hn2 := meth_it_Value2 (.pointer (some ⟨it, 0, none⟩))
  clear hit hb1 hb1' hitw hIT hsp1 hsq1 hlp hlq t0 hc1 hc2
  go_wp2_with fail
  go_loopg [5] m (fun k s5 wr => EqRel ps qs n m it q w1 k s5 wr)
  case atStart => exact ⟨0, -1, rfl, rfl, by omega, Nat.zero_le _, HIT.out, rfl, Fr.refl _ _⟩
  case round =>
    obtain ⟨j, I, rfl, hI, hjk, hjn, hit, htk, hfr⟩ := hrel
    have hq1 := HQ1.out.frame hfr HLQ.out
    have hnx := next_sp it q G qs I j wr hq1 hit hI (by omega) (by rw [HM.out]; omega)
    rw [HM.out] at hnx
    have HTK := Lib.hid htk
    have HFR := Lib.hid hfr
    have HITR := Lib.hid hit
    have HQR := Lib.hid hq1
    clear hI hit htk hfr hq1
    by_cases hj : j < m
    · rw [decide_eq_true hj] at hnx
      have HNX := Lib.hid hnx
      clear hnx
      cases gk with
      | zero => omega
      | succ k =>
        go_wp2_with fail
        refine HNX.out.mono ?_
        rintro e w2 ⟨rfl, nq2, rfl⟩
        have hf2 : Fr [it] [it] wr ((wr.setCell ⟨it, 0, none⟩ (.int .i64 (j : Int))).drewN nq2) := (Fr.store wr (F := [it]) (a := ⟨it, 0, none⟩) (List.mem_singleton.2 rfl) _).drewN nq2
        have hit2 : ItAt ((wr.setCell ⟨it, 0, none⟩ (.int .i64 (j : Int))).drewN nq2) it q (j : Int) := Blk.set HITR.out 0 (.int .i64 (j : Int))
        have hq2 := HQR.out.frame hf2 HLQ.out
        have hfr2 := HFR.out.trans hf2
        obtain ⟨w2, hw2⟩ : ∃ w2, (wr.setCell ⟨it, 0, none⟩ (.int .i64 (j : Int))).drewN nq2 = w2 := ⟨_, rfl⟩
        rw [hw2] at hit2 hq2 hfr2 ⊢
        have hval := value_sp it q G qs j w2 hq2 hit2 (by rw [HM.out]; exact hj) (by rw [HM.out]; omega)
        have hYp : (qs.getD j (0, 0)).2 ≠ 0 := HNZ.out _ (by rw [List.getD_eq_getElem?_getD, List.getElem?_eq_getElem (by rw [HM.out]; exact hj)]; exact List.getElem_mem _)
        obtain ⟨X, hX⟩ : ∃ X, (qs.getD j (0, 0)).1 = X := ⟨_, rfl⟩
        obtain ⟨Y, hY⟩ : ∃ Y, (qs.getD j (0, 0)).2 = Y := ⟨_, rfl⟩
        rw [hX, hY] at hval
        rw [hY] at hYp
        have hqe : qs.getD j (0, 0) = (X, Y) := by rw [← hX, ← hY]
        have HQE := Lib.hid hqe
        have HV := Lib.hid hval
        have HIT2 := Lib.hid hit2
        have HFR2 := Lib.hid hfr2
        have hp2 := HP1.out.frame hfr2 HLP.out
        obtain ⟨a1, c1, a2, c2, n', hpn, p0, p1, pc⟩ := hp2.pairs
        rw [HN.out] at hpn
        subst hpn
        have hb : Below w.heap.size w w2 := HB1.out.trans (hfr2.below (fun k hk => by rw [List.mem_singleton] at hk; have := HITW.out; omega) HB1.out.size)
        have HB2 := Lib.hid hb
        clear hf2 hit2 hq2 hfr2 hw2 hval hX hY hqe hp2 hb
        go_wp2_with fail
        refine HV.out.mono ?_
        rintro e w3 ⟨rfl, nq3, rfl⟩
        have HB3 := Lib.hid (below_drewN HB2.out nq3)
        have HFR3 := Lib.hid (HFR2.out.drewN nq3)
        have HIT3 : Hid (ItAt (w2.drewN nq3) it q (j : Int)) := Lib.hid HIT2.out
        replace p0 : (w2.drewN nq3).cell? ⟨p, 0, none⟩ = some (.slice a1 n' c1) := p0
        replace p1 : (w2.drewN nq3).cell? ⟨p, 1, none⟩ = some (.slice a2 n' c2) := p1
        have hnw : IntKind.u64.wrap (n' : Int) = (n' : Int) := u64wd n' (by omega)
        have ht1 : ((n' : Int) == 0) = false := by rw [beq_eq_false_iff_ne]; omega
        by_cases hjn2 : j = n'
        · have t1 : decide (n' ≤ j) = true := by rw [decide_eq_true_iff]; omega
          have hno : ¬ qs <+: ps := fun hpre => by
            have := (pre_at hpre j (by rw [HM.out]; exact hj)).1
            rw [HN.out] at this; omega
          have HNO := Lib.hid hno
          clear hno hjn2 pc
          obtain ⟨w3, hw3⟩ : ∃ w3, w2.drewN nq3 = w3 := ⟨_, rfl⟩
          rw [hw3] at p0 p1 HB3 ⊢
          clear hw3
          go_wp2_with fail
          go_ret
          exact ⟨false, rfl, ⟨(fun h => by cases h), fun h => absurd h HNO.out⟩, HB3.out⟩
        · have hjl : j < n' := by omega
          have t1 : decide (n' ≤ j) = false := by rw [decide_eq_false_iff_not]; omega
          obtain ⟨g1, g2, rfl, rfl, u1, u2⟩ := pc j hjl
          replace u1 : (w2.drewN nq3).cell? ⟨g1, j, none⟩ = some (.int .u64 (((ps.getD j (0, 0)).2 : Nat) : Int)) := u1
          replace u2 : (w2.drewN nq3).cell? ⟨g2, j, none⟩ = some (.int .u64 (((ps.getD j (0, 0)).1 : Nat) : Int)) := u2
          obtain ⟨A, hA⟩ : ∃ A, (ps.getD j (0, 0)).1 = A := ⟨_, rfl⟩
          obtain ⟨B, hB⟩ : ∃ B, (ps.getD j (0, 0)).2 = B := ⟨_, rfl⟩
          rw [hA] at u2
          rw [hB] at u1
          have hpe : ps.getD j (0, 0) = (A, B) := by rw [← hA, ← hB]
          have hno : (A, B) ≠ (X, Y) → ¬ qs <+: ps := fun hne hpre => by
            have h2 := (pre_at hpre j (by rw [HM.out]; exact hj)).2
            rw [hpe, HQE.out] at h2; exact hne h2
          have HPE := Lib.hid hpe
          have HNO := Lib.hid hno
          have i1 : (j : Int) < (n' : Int) := by omega
          have i2 : (0 : Int) ≤ (j : Int) := by omega
          clear hno hjn2 pc hA hB hpe
          obtain ⟨w3, hw3⟩ : ∃ w3, w2.drewN nq3 = w3 := ⟨_, rfl⟩
          rw [hw3] at p0 p1 HB3 HFR3 HIT3 u1 u2 ⊢
          clear hw3
          have hyp : decide (0 < Y) = true := by rw [decide_eq_true_iff]; omega
          by_cases hlt : X < A
          · have t2 : decide (X < A) = true := by rw [decide_eq_true_iff]; exact hlt
            have hno := HNO.out (by intro e; injection e with e1 e2; omega)
            have HNO2 := Lib.hid hno
            clear hno hlt
            go_wp2_with fail
            go_ret
            exact ⟨false, rfl, ⟨(fun h => by cases h), fun h => absurd h HNO2.out⟩, HB3.out⟩
          · have t2 : decide (X < A) = false := by rw [decide_eq_false_iff_not]; exact hlt
            by_cases hgt : A < X
            · have t3 : decide (A < X) = true := by rw [decide_eq_true_iff]; exact hgt
              have hno := HNO.out (by intro e; injection e with e1 e2; omega)
              have HNO2 := Lib.hid hno
              clear hno hlt hgt
              go_wp2_with fail
              go_ret
              exact ⟨false, rfl, ⟨(fun h => by cases h), fun h => absurd h HNO2.out⟩, HB3.out⟩
            · have t3 : decide (A < X) = false := by rw [decide_eq_false_iff_not]; exact hgt
              have hbe := bequals_any B Y w3
              by_cases hby : B = Y
              · have hno : (A, B) = (X, Y) := by rw [hby, show A = X by omega]
                rw [decide_eq_true (p := B = Y) hby] at hbe
                have HBE := Lib.hid hbe
                have HEQ := Lib.hid hno
                clear hno hlt hgt hby hbe
                go_wp2_with fail
                refine HBE.out.mono ?_
                rintro e w4 ⟨rfl, rfl⟩
                go_wp2_with fail
                go_roundg k
                case measure => omega
                case rel => exact ⟨j + 1, (j : Int), by go_num, by omega, by omega, by omega, HIT3.out, take_next HTK.out (by rw [HM.out]; exact hj) (by rw [HN.out]; exact hjl) (by rw [HPE.out, HQE.out]; exact HEQ.out), HFR3.out⟩
              · have hno := HNO.out (by intro e; injection e with e1 e2; exact hby e2)
                rw [decide_eq_false (p := B = Y) hby] at hbe
                have HBE := Lib.hid hbe
                have HNO2 := Lib.hid hno
                clear hno hlt hgt hby hbe
                go_wp2_with fail
                refine HBE.out.mono ?_
                rintro e w4 ⟨rfl, rfl⟩
                go_wp2_with fail
                go_ret
                exact ⟨false, rfl, ⟨(fun h => by cases h), fun h => absurd h HNO2.out⟩, HB3.out⟩
    · obtain rfl : j = m := by omega
      rw [decide_eq_false (by omega)] at hnx
      have HNX := Lib.hid hnx
      clear hnx
      go_wp2_with fail
      refine HNX.out.mono ?_
      rintro e w2 ⟨rfl, nq2, rfl⟩
      have hf2 : Fr [it] [it] wr ((wr.setCell ⟨it, 0, none⟩ (.int .i64 (j : Int))).drewN nq2) := (Fr.store wr (F := [it]) (a := ⟨it, 0, none⟩) (List.mem_singleton.2 rfl) _).drewN nq2
      have hb : Below w.heap.size w ((wr.setCell ⟨it, 0, none⟩ (.int .i64 (j : Int))).drewN nq2) := HB1.out.trans ((HFR.out.trans hf2).below (fun k hk => by rw [List.mem_singleton] at hk; have := HITW.out; omega) HB1.out.size)
      have HB2 := Lib.hid hb
      have hpre : qs <+: ps := by
        have h := HTK.out
        rw [List.take_of_length_le (by rw [HM.out]; exact Nat.le_refl _)] at h
        rw [h]; exact List.take_prefix _ _
      have HPRE := Lib.hid hpre
      obtain ⟨w3, hw3⟩ : ∃ w3, (wr.setCell ⟨it, 0, none⟩ (.int .i64 (j : Int))).drewN nq2 = w3 := ⟨_, rfl⟩
      rw [hw3] at HB2 ⊢
      clear hf2 hb hpre hw3
      go_wp2_with fail
      go_ret
      exact ⟨true, rfl, ⟨fun _ => HPRE.out, fun _ => rfl⟩, HB2.out⟩
end Go.Proofs.Ytjnefgmoobbniaa
