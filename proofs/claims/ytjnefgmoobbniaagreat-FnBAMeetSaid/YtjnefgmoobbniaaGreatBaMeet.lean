/- Walks for FnBAMeet: spec.BACapacity at a dense array, laws.baNoLonger, spec.BAWithin, Intersects of two dense arrays. -/
import Derived.Test.YtjnefgmoobbniaaGreatBaAndDe
import Derived.Test.YtjnefgmoobbniaaGreatBaSets3
import Derived.Test.YtjnefgmoobbniaaGreatBaAskLaw
namespace Go.Proofs.YtjnefgmoobbniaaGreat
set_option linter.unusedVariables false
open Go.RowKit Bam

theorem bacap_de (a : Option Addr) (k c n : Nat) (w : World) (hn : n ≤ 1000000) :
    Calls Tryz.prog 22 #[.agg #[.bool true, .int .u64 (n : Int), .slice a k c]] w fun e w' => e = .returned (.int .u64 ((64 * n : Nat) : Int)) ∧ Below w.heap.size w w' := by
  have hw2 : IntKind.u64.wrap (64 * (n : Int)) = ((64 * n : Nat) : Int) := by rw [show 64 * (n : Int) = ((64 * n : Nat) : Int) by omega]; exact u64wd _ (by omega)
  have HW2 := Lib.hid hw2
  clear hw2
  go_enter Tryz.func22, Tryz.ntmps22
  go_wp2_with fail
  go_ret
  exact ⟨ret_int (by omega), (Below.refl _ _).alloc (Nat.le_refl _) _⟩

set_option maxRecDepth 100000 in
set_option maxHeartbeats 4000000 in
theorem banolonger_c (n m : Nat) (S1 S2 : List Nat) (hn : n ≤ 1000) (hm : m ≤ 1000) : FitsC 13 true true n m S1 S2 (decide (m ≤ n)) := by
  intro w s1 s2 k1 k2
  obtain ⟨a, c, rfl, -⟩ := k1.shape
  obtain ⟨b, d, rfl, -⟩ := k2.shape
  obtain ⟨l1, hl1⟩ : ∃ n, S1.length = n := ⟨_, rfl⟩
  obtain ⟨l2, hl2⟩ : ∃ m, S2.length = m := ⟨_, rfl⟩
  rw [hl1, hl2]
  have hc1 : ∀ w', _ := fun w' => bacap_de a l1 c n w' (by omega)
  have hc2 : ∀ w', _ := fun w' => bacap_de b l2 d m w' (by omega)
  obtain ⟨N, hN⟩ : ∃ N, 64 * n = N := ⟨_, rfl⟩
  obtain ⟨M, hM⟩ : ∃ M, 64 * m = M := ⟨_, rfl⟩
  rw [hN] at hc1
  rw [hM] at hc2
  have hd : decide (m ≤ n) = decide (M ≤ N) := by rw [Bool.eq_iff_iff, decide_eq_true_iff, decide_eq_true_iff]; omega
  rw [hd]
  obtain ⟨t, ht⟩ : ∃ t, decide (M ≤ N) = t := ⟨_, rfl⟩
  rw [ht]
  have HC1 := Lib.hid hc1
  have HC2 := Lib.hid hc2
  clear k1 k2 hl1 hl2 hn hm hc1 hc2 hN hM hd
  go_enter Tryz.func13, Tryz.ntmps13
  go_wp2_with fail
  have hb0 : Below w.heap.size w ((w.alloc (.cells #[.bool true, .int .u64 (n : Int), .slice a l1 c] 36)).alloc (.cells #[.bool true, .int .u64 (m : Int), .slice b l2 d] 36)) := ((Below.refl _ _).alloc (Nat.le_refl _) _).alloc (by simp) _
  have hq1 := (Blk.new w 36 #[.bool true, .int .u64 (n : Int), .slice a l1 c]).alloc (.cells #[.bool true, .int .u64 (m : Int), .slice b l2 d] 36)
  have hq2 := Blk.new (w.alloc (.cells #[.bool true, .int .u64 (n : Int), .slice a l1 c] 36)) 36 #[.bool true, .int .u64 (m : Int), .slice b l2 d]
  rw [World.size_alloc] at hq2
  obtain ⟨w0, hw0⟩ : ∃ w0, (w.alloc (.cells #[.bool true, .int .u64 (n : Int), .slice a l1 c] 36)).alloc (.cells #[.bool true, .int .u64 (m : Int), .slice b l2 d] 36) = w0 := ⟨_, rfl⟩
  rw [hw0] at hb0 hq1 hq2 ⊢
  have a0 := hq1.cell 0 rfl
  have a1 := hq1.cell 1 rfl
  have a2 := hq1.cell 2 rfl
  have b0 := hq2.cell 0 rfl
  have b1 := hq2.cell 1 rfl
  have b2 := hq2.cell 2 rfl
  have la := hq1.lt
  have lb := hq2.lt
  have hself : Below w0.heap.size w0 w0 := Below.refl _ _
  have HB0 := Lib.hid hb0
  clear hw0 hq1 hq2 hb0
  go_region_held3 (fun w' => Below w0.heap.size w0 w' ∧ w'.cell? ⟨w.heap.size, 0, none⟩ = some (.bool true) ∧ w'.cell? ⟨w.heap.size, 1, none⟩ = some (.int .u64 (n : Int)) ∧ w'.cell? ⟨w.heap.size, 2, none⟩ = some (.slice a l1 c) ∧ w'.cell? ⟨w.heap.size + 1, 0, none⟩ = some (.bool true) ∧ w'.cell? ⟨w.heap.size + 1, 1, none⟩ = some (.int .u64 (m : Int)) ∧ w'.cell? ⟨w.heap.size + 1, 2, none⟩ = some (.slice b l2 d))
    ((first | exact ⟨hself.drew, a0, a1, a2, b0, b1, b2⟩ | exact ⟨hb6, c0, c1, c2, d0, d1, d2⟩ | exact ⟨by assumption, by assumption, by assumption, by assumption, by assumption, by assumption, by assumption⟩))
    ((go_at_call 22; (first | (with_reducible refine Calls.mono (HC1.out _) ?_) | (with_reducible refine Calls.mono (HC2.out _) ?_)); rintro e w6 ⟨rfl, hb⟩; have hb6 : Below w0.heap.size w0 w6 := (by first | exact hself.drew.trans (hb.mono hself.drew.size) | exact Below.trans (by assumption) (hb.mono (Below.size (by assumption)))); clear hb; have c0 := (hb6.cell (p := ⟨w.heap.size, 0, none⟩) la).trans a0; have c1 := (hb6.cell (p := ⟨w.heap.size, 1, none⟩) la).trans a1; have c2 := (hb6.cell (p := ⟨w.heap.size, 2, none⟩) la).trans a2; have d0 := (hb6.cell (p := ⟨w.heap.size + 1, 0, none⟩) lb).trans b0; have d1 := (hb6.cell (p := ⟨w.heap.size + 1, 1, none⟩) lb).trans b1; have d2 := (hb6.cell (p := ⟨w.heap.size + 1, 2, none⟩) lb).trans b2))
  all_goals
    go_wp2_with fail
    go_ret
    exact ⟨rfl, HB0.out.trans (Below.mono (by assumption) HB0.out.size)⟩

set_option maxRecDepth 100000 in
theorem bawithin_c (S1 S2 : List Nat) (h1 : S1.length ≤ 3000) (h2 : S2.length ≤ 3000) : AskC 12 S1 S2 (decide (sNand S2 S1 = [])) := by
  intro w s1 s2 hs1 hs2
  have hc := banand_c S2 S1 h2 h1 w s2 s1 hs2 hs1
  have HC := Lib.hid hc
  have hd : decide (sNand S2 S1 = []) = (((sNand S2 S1).length : Int) == 0) := by
    rw [Bool.eq_iff_iff, decide_eq_true_iff, beq_iff_eq]
    constructor
    · intro e; rw [e]; rfl
    · intro e; exact List.eq_nil_of_length_eq_zero (by omega)
  rw [hd]
  have hlen : (sNand S2 S1).length ≤ 3000 := Nat.le_trans (List.length_filter_le _ _) h2
  obtain ⟨l, hl⟩ : ∃ l, (sNand S2 S1).length = l := ⟨_, rfl⟩
  rw [hl] at hlen ⊢
  have HL := Lib.hid hl
  obtain ⟨a, c, rfl, -⟩ := hs1.shape
  obtain ⟨b, d, rfl, -⟩ := hs2.shape
  clear hc hs1 hs2 hd hl
  go_enter Tryz.func12, Tryz.ntmps12
  go_wp2_with fail
  refine HC.out.mono ?_
  rintro e w' ⟨v, rfl, hv, hb⟩
  obtain ⟨p, k, rfl, -⟩ := hv.shape
  rw [HL.out]
  have HB := Lib.hid hb
  clear hv hb
  go_wp2_with fail
  go_ret
  exact ⟨rfl, HB.out⟩

theorem meets_iff {W V : List Nat} (h1 : W64 W) (h2 : W64 V) : (∀ j, j < V.length → W.getD j 0 &&& V.getD j 0 = V.getD j 0) ↔ sNand (dnums V) (dnums W) = [] := by
  rw [List.eq_nil_iff_forall_not_mem]
  constructor
  · intro h k hk
    obtain ⟨hm, hn⟩ := ((sNand_ok (asc_dnums h2) (asc_dnums h1)).2 k).1 hk
    apply hn
    have hlt := dnums_lt h2 hm
    rw [mem_dnums h2] at hm
    rw [mem_dnums h1]
    have e := h (k / 64) (by omega)
    rw [← e, Nat.testBit_and] at hm
    simp at hm
    exact hm.1
  · intro h j hj
    apply Nat.eq_of_testBit_eq
    intro t
    rw [Nat.testBit_and]
    by_cases ht : t < 64
    · cases hb : (V.getD j 0).testBit t with
      | false => simp
      | true =>
        have hk : j * 64 + t ∈ dnums V := by rw [mem_dnums h2, show (j * 64 + t) / 64 = j by omega, show (j * 64 + t) % 64 = t by omega]; exact hb
        have hw : j * 64 + t ∈ dnums W := by
          refine Classical.byContradiction fun hn => ?_
          exact h _ (((sNand_ok (asc_dnums h2) (asc_dnums h1)).2 _).2 ⟨hk, hn⟩)
        rw [mem_dnums h1, show (j * 64 + t) / 64 = j by omega, show (j * 64 + t) % 64 = t by omega] at hw
        rw [hw]; rfl
    · have e : (V.getD j 0).testBit t = false := Nat.testBit_lt_two_pow (Nat.lt_of_lt_of_le (getD_lt h2 j) (Nat.pow_le_pow_right (by decide) (by omega)))
      rw [e]; simp

def MeetRel (W V : List Nat) (m : Nat) (w : World) (k : Nat) (idx : Value) (wr : World) : Prop :=
  ∃ i : Nat, idx = .int .i64 (i : Int) ∧ i + k = m ∧ (∀ j, j < i → W.getD j 0 &&& V.getD j 0 = V.getD j 0) ∧ wr = w

set_option maxRecDepth 100000 in
set_option maxHeartbeats 4000000 in
theorem meetsdd_any (p q : Nat) (F G : List Nat) (W V : List Nat) (w : World) (h : DeW w p F W) (k : DeW w q G V) (ho1 : W64 W) (ho2 : W64 V) (hn : W.length ≤ 9000) (hm : V.length ≤ W.length) :
    Calls Tryz.prog 77 #[.pointer (some ⟨p, 0, none⟩), .pointer (some ⟨q, 0, none⟩)] w fun e w' =>
      ∃ b : Bool, e = .returned (.bool b) ∧ (b = true ↔ ∀ j, j < V.length → W.getD j 0 &&& V.getD j 0 = V.getD j 0) ∧ w = w' := by
  obtain ⟨a1, c1, n, hp⟩ := DeAt.wat h
  obtain ⟨a2, c2, m, hq⟩ := DeAt.wat k
  have HO1 := Lib.hid ho1
  have HO2 := Lib.hid ho2
  obtain ⟨hpn, p0, pc⟩ := hp
  obtain ⟨hqn, q0, qc⟩ := hq
  have HPC := Lib.hid pc
  have HQC := Lib.hid qc
  rw [← hpn] at hn hm
  rw [← hqn] at hm ⊢
  clear hpn hqn h k ho1 ho2 pc qc
  go_enter Tryz.func77, Tryz.ntmps77
  go_wp2_with fail
  go_loopg [12] m (fun k idx wr => MeetRel W V m w k idx wr)
  case atStart => exact ⟨0, rfl, by omega, fun j hj => absurd hj (Nat.not_lt_zero _), rfl⟩
  case round =>
    obtain ⟨i, rfl, hik, hall, rfl⟩ := hrel
    have HA := Lib.hid hall
    clear hall
    by_cases hi : i < m
    · cases gk with
      | zero => omega
      | succ k =>
        obtain ⟨g1, rfl, u1⟩ := HPC.out i (by omega)
        obtain ⟨g2, rfl, u2⟩ := HQC.out i hi
        have hbm := bmeets_any (W.getD i 0) (V.getD i 0) (getD_lt HO1.out i) (getD_lt HO2.out i) wr
        obtain ⟨A, hAe⟩ : ∃ A, W.getD i 0 = A := ⟨_, rfl⟩
        obtain ⟨B, hBe⟩ : ∃ B, V.getD i 0 = B := ⟨_, rfl⟩
        rw [hAe] at u1 hbm
        rw [hBe] at u2 hbm
        have HAE := Lib.hid hAe
        have HBE := Lib.hid hBe
        have i0 : decide (i < m) = true := by rw [decide_eq_true_iff]; exact hi
        have i1 : (i : Int) < (m : Int) := by omega
        have i2 : (0 : Int) ≤ (i : Int) := by omega
        have i3 : (i : Int) < (n : Int) := by omega
        have i5 : i < n := by omega
        clear hAe hBe
        by_cases hab : A &&& B = B
        · rw [decide_eq_true hab] at hbm
          have HBM := Lib.hid hbm
          have HAB := Lib.hid hab
          clear hbm hab
          go_wp2_with fail
          refine HBM.out.mono ?_
          rintro e w1 ⟨rfl, rfl⟩
          go_wp2_with fail
          go_roundg k
          case measure => omega
          case rel => exact ⟨i + 1, by go_num, by omega, fun j hj => (by
            by_cases e : j = i
            · rw [e, HAE.out, HBE.out]; exact HAB.out
            · exact HA.out j (by omega)), rfl⟩
        · rw [decide_eq_false hab] at hbm
          have HBM := Lib.hid hbm
          have HAB := Lib.hid hab
          have HI := Lib.hid hi
          clear hbm hab
          go_wp2_with fail
          refine HBM.out.mono ?_
          rintro e w1 ⟨rfl, rfl⟩
          go_wp2_with fail
          go_ret
          refine ⟨false, rfl, ⟨(fun h => by cases h), fun h => ?_⟩, rfl⟩
          have h2 := h i HI.out
          rw [HAE.out, HBE.out] at h2
          exact absurd h2 HAB.out
    · obtain rfl : i = m := by omega
      have i0 : decide (i < i) = false := by rw [decide_eq_false_iff_not]; omega
      go_wp2_with fail
      go_ret
      exact ⟨true, rfl, ⟨fun _ => HA.out, fun _ => rfl⟩, rfl⟩

theorem meth_de_Capacity3 (x : Value) (w : World) : (method 250 80 x "Capacity").run Tryz.prog w = .ok (55, x) w := by kernel_rfl
theorem assert_de_sp (v : Value) (w : World) : (Instr.typeAssert (.iface 80 v) 57 82 true).run Tryz.prog w = .ok (.tuple #[.pointer none, .bool false]) w := by kernel_rfl
theorem assert_de_de0 (v : Value) (w : World) : (Instr.typeAssert (.iface 80 v) 57 80 false).run Tryz.prog w = .ok v w := by kernel_rfl

set_option maxRecDepth 100000 in
set_option maxHeartbeats 4000000 in
theorem asks_meets_dd (W V : List Nat) (h1 : W64 W) (h2 : W64 V) (hn : W.length ≤ 9000) (hm : V.length ≤ W.length) : Asks 61 (deA W) (deA V) (decide (sNand (dnums V) (dnums W) = [])) := by
  intro w p F q G hp hq
  have ha := meetsdd_any p q F G W V w hp hq h1 h2 hn hm
  have HA := Lib.hid ha
  have hk1 := capacity_de p F W _ _ _ w hp (by omega)
  have hk2 := capacity_de q G V _ _ _ w hq (by omega)
  have HME := Lib.hid (meets_iff h1 h2)
  obtain ⟨d, hd⟩ : ∃ d, decide (sNand (dnums V) (dnums W) = []) = d := ⟨_, rfl⟩
  rw [hd]
  have HD := Lib.hid hd
  obtain ⟨N, hN⟩ : ∃ N, 64 * W.length = N := ⟨_, rfl⟩
  obtain ⟨M, hM⟩ : ∃ M, 64 * V.length = M := ⟨_, rfl⟩
  rw [hN] at hk1
  rw [hM] at hk2
  have t0 : decide (N < M) = false := by rw [decide_eq_false_iff_not]; omega
  have HK1 := Lib.hid hk1
  have HK2 := Lib.hid hk2
  show Calls Tryz.prog _ #[.pointer (some ⟨p, 0, none⟩), .iface 80 (.pointer (some ⟨q, 0, none⟩))] w _
  have hta := assert_de_sp (.pointer (some ⟨q, 0, none⟩))
  have htb := assert_de_de0 (.pointer (some ⟨q, 0, none⟩))
  have hmc := meth_de_Capacity3 (.pointer (some ⟨q, 0, none⟩))
  clear ha hp hq h1 h2 hn hm hk1 hk2 hN hM hd
  go_enter Tryz.func61, Tryz.ntmps61
  go_wp2_with fail
  refine HK2.out.mono ?_
  rintro e w' ⟨rfl, rfl⟩
  go_wp2_with fail
  refine HK1.out.mono ?_
  rintro e w' ⟨rfl, rfl⟩
  go_wp2_with fail
  refine HA.out.mono ?_
  rintro e w' ⟨b, rfl, hbb, rfl⟩
  obtain rfl : b = d := by rw [← HD.out, Bool.eq_iff_iff, hbb, HME.out, decide_eq_true_iff]
  clear hbb
  go_wp2_with fail
  go_ret
  exact ⟨rfl, Below.refl _ _⟩
end Go.Proofs.YtjnefgmoobbniaaGreat
