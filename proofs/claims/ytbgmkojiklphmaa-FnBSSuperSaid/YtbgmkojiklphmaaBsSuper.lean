/- Walks of BitSet's Count, IsSuperSet, IsStrictSuperSet, and of impl.BSIsSuperSet, BSIsStrictSuperSet. -/
import Derived.Test.YtbgmkojiklphmaaBsSymImpl
namespace Go.Proofs.Ytbgmkojiklphmaa
set_option linter.unusedVariables false
open Go.RowKit
attribute [local irreducible] Pop.pc Bsm.cnt

set_option maxRecDepth 100000 in
set_option maxHeartbeats 1000000 in
theorem count_any (B p L : Nat) (ws : List Nat) (cap : Nat) (w : World) (hb : Bs B w p L ws cap) (hn : ws.length ≤ 10000) :
    Calls Try.prog 94 #[.pointer (some ⟨p, 0, none⟩)] w fun e w' => e = .returned (.int .u64 (Bsm.cnt (Bsm.bit ws) 0 (64 * ws.length) : Nat)) ∧ ∃ m, w' = w.drewN m := by
  have HLT := Lib.hid hb.word_lt
  obtain ⟨g, c0, c1, hS, _⟩ := hb.sl
  have HS := Lib.hid hS
  have HN := Lib.hid hn
  obtain ⟨n, hn2⟩ : ∃ n, ws.length = n := ⟨_, rfl⟩
  rw [hn2] at c1 HS
  have HN2 := Lib.hid hn2
  obtain ⟨V, hV⟩ : ∃ V, Bsm.cnt (Bsm.bit ws) 0 (64 * ws.length) = V := ⟨_, rfl⟩
  have HV := Lib.hid hV
  rw [hV]
  clear hb hS hn hn2 hV
  go_enter Try.func94, Try.ntmps94
  go_wp2_with fail
  refine (popsl_any _ ws _ HS.out HN.out HLT.out).mono ?_
  rintro e w' ⟨rfl, m, rfl⟩
  rw [HV.out]
  have hVl := Bsm.cnt_le (Bsm.bit ws) 0 (64 * ws.length)
  rw [HV.out] at hVl
  have hV2 : V ≤ 1000000 := by have := HN.out; omega
  clear hVl
  go_wp2_with fail
  go_ret
  exact ⟨rfl, m, rfl⟩

def SupLoop (ws ws2 : List Nat) (N : Nat) (w : World) (k : Nat) (idx : Value) (wr : World) : Prop :=
  ∃ i : Nat, idx = .int .i64 (i : Int) ∧ i + k = N ∧ (∀ q, q < i → ws.getD q 0 &&& ws2.getD q 0 = ws2.getD q 0) ∧ wr = w

theorem sub_word (x y : Nat) : x &&& y = y ↔ ∀ j, y.testBit j = true → x.testBit j = true := by
  constructor
  · intro h j hj
    rw [← h, Nat.testBit_and] at hj
    simp at hj
    exact hj.1
  · intro h
    apply Nat.eq_of_testBit_eq
    intro j
    rw [Nat.testBit_and]
    cases hy : y.testBit j with
    | false => simp
    | true => rw [h j hy]; rfl

theorem sub_words (ws ws2 : List Nat) (h : ∀ j, Bsm.bit ws2 j = true → Bsm.bit ws j = true) (q : Nat) (hlt2 : ∀ q, ws2.getD q 0 < 18446744073709551616) : ws.getD q 0 &&& ws2.getD q 0 = ws2.getD q 0 := by
  rw [sub_word]
  intro j hj
  by_cases h64 : j < 64
  · have := h (64 * q + j)
    unfold Bsm.bit at this
    rw [show (64 * q + j) / 64 = q from by omega, show (64 * q + j) % 64 = j from by omega] at this
    exact this hj
  · have : (ws2.getD q 0).testBit j = false := Nat.testBit_lt_two_pow (Nat.lt_of_lt_of_le (hlt2 q) (Nat.pow_le_pow_right (n := 2) (i := 64) (by decide) (by omega)))
    rw [this] at hj; cases hj

theorem Bs.all {B p L : Nat} {ws : List Nat} {cap : Nat} {w : World} (h : Bs B w p L ws cap) : ∃ g, w.cell? ⟨p, 0, none⟩ = some (.int .u64 (L : Int)) ∧ w.cell? ⟨p, 1, none⟩ = some (.slice (some ⟨g, 0, none⟩) ws.length cap) ∧
    (∀ q, q < ws.length → w.cell? ⟨g, q, none⟩ = some (.int .u64 (ws.getD q 0 : Nat))) ∧ Sl w (.slice (some ⟨g, 0, none⟩) ws.length cap) (u64s ws) ∧ ws.length ≤ cap ∧ cap ≤ maxLen := by
  obtain ⟨g, h1, h2, h3, h4, h5⟩ := h
  have hs := Sl.of_owns h4
  refine ⟨g, h3.cell 0 rfl, h3.cell 1 rfl, fun q hq => ?_, hs, ?_⟩
  · have c2 := h4.cellAt q (by omega)
    rwa [u64s_at ws q hq] at c2
  · obtain ⟨a, m, c, e, _, h2, h3, _⟩ := hs
    simp only [Value.slice.injEq] at e
    omega

set_option maxRecDepth 100000 in
set_option maxHeartbeats 4000000 in
theorem super_any (B B2 p p2 L L2 : Nat) (ws ws2 : List Nat) (cap cap2 : Nat) (w : World) (hb : Bs B w p L ws cap) (hb2 : Bs B2 w p2 L2 ws2 cap2) (hL : L ≤ 10000) (hL2 : L2 ≤ 10000)
    (hwl : ws.length = (L + 63) / 64) (hwl2 : ws2.length = (L2 + 63) / 64) (bb : Bool) (hbb : bb = true ↔ ∀ j, Bsm.bit ws2 j = true → Bsm.bit ws j = true) :
    Calls Try.prog 68 #[.pointer (some ⟨p, 0, none⟩), .pointer (some ⟨p2, 0, none⟩)] w fun e w' => e = .returned (.bool bb) ∧ ∃ m, w' = w.drewN m := by
  have hlt := hb.word_lt
  have hlt2 := hb2.word_lt
  obtain ⟨g, c0, c1, c2, hS, hcp, hcm⟩ := hb.all
  obtain ⟨g2, d0, d1, d2, hS2, hcp2, hcm2⟩ := hb2.all
  obtain ⟨n, hn⟩ : ∃ n, ws.length = n := ⟨_, rfl⟩
  obtain ⟨n2, hn2⟩ : ∃ n2, ws2.length = n2 := ⟨_, rfl⟩
  obtain ⟨l, hl⟩ : ∃ l, min n n2 = l := ⟨_, rfl⟩
  have hout : ∀ (zs : List Nat) (j : Nat), 64 * zs.length ≤ j → Bsm.bit zs j = false := by
    intro zs j hj
    unfold Bsm.bit
    rw [List.getD_eq_getElem?_getD, List.getElem?_eq_none (by omega)]
    exact Nat.zero_testBit _
  unfold maxLen at hcm2
  have hyes : bb = true → ∀ q, ws.getD q 0 &&& ws2.getD q 0 = ws2.getD q 0 := fun h q => sub_words ws ws2 (hbb.1 h) q hlt2
  have hend : (∀ q, q < l → ws.getD q 0 &&& ws2.getD q 0 = ws2.getD q 0) → (((Bsm.cnt (Bsm.bit (ws2.drop l)) 0 (64 * (ws2.drop l).length) : Nat) : Int) == 0) = bb := by
    intro h
    have hiff : (∀ j, Bsm.bit ws2 j = true → Bsm.bit ws j = true) ↔ (∀ j, 64 * l ≤ j → Bsm.bit ws2 j = false) := by
      constructor
      · intro h1 j hj
        cases hb2 : Bsm.bit ws2 j with
        | false => rfl
        | true =>
          have h3 := h1 j hb2
          by_cases hnl : n ≤ n2
          · rw [hout ws j (by omega)] at h3; cases h3
          · rw [hout ws2 j (by omega)] at hb2; cases hb2
      · intro h1 j hj
        by_cases hjl : j < 64 * l
        · have h4 := (sub_word _ _).1 (h (j / 64) (by omega)) (j % 64)
          unfold Bsm.bit at hj ⊢
          exact h4 hj
        · rw [h1 j (by omega)] at hj; cases hj
    by_cases hz : ∀ j, 64 * l ≤ j → Bsm.bit ws2 j = false
    · have e0 : Bsm.cnt (Bsm.bit (ws2.drop l)) 0 (64 * (ws2.drop l).length) = 0 := Bsm.cnt_none _ _ _ fun j _ => by rw [Nat.zero_add, Bsm.bit_drop]; exact hz _ (by omega)
      rw [e0, hbb.2 (hiff.2 hz)]; rfl
    · have hbf : bb = false := by
        cases hbv : bb with
        | false => rfl
        | true => exact absurd (hiff.1 (hbb.1 hbv)) hz
      have hne : Bsm.cnt (Bsm.bit (ws2.drop l)) 0 (64 * (ws2.drop l).length) ≠ 0 := by
        intro h0
        apply hz
        intro j hj
        cases hb2 : Bsm.bit ws2 j with
        | false => rfl
        | true =>
          have hjn : j < 64 * n2 := by
            by_cases hc : j < 64 * n2
            · exact hc
            · rw [hout ws2 j (by omega)] at hb2; cases hb2
          have hlen : (ws2.drop l).length = n2 - l := by rw [List.length_drop]; omega
          rw [hlen, show 64 * (n2 - l) = (j - 64 * l) + (1 + (64 * (n2 - l) - (j - 64 * l) - 1)) from by omega, Bsm.cnt_add, Bsm.cnt_add] at h0
          have h1 : Bsm.cnt (Bsm.bit (ws2.drop l)) (0 + (j - 64 * l)) 1 = 1 := by
            have := Bsm.cnt_yes (Bsm.bit (ws2.drop l)) (0 + (j - 64 * l)) 0 (by rw [Nat.add_zero, Nat.zero_add, Bsm.bit_drop, show 64 * l + (j - 64 * l) = j from by omega]; exact hb2)
            rw [this, Bsm.cnt_zero]
          omega
      rw [hbf]
      generalize Bsm.cnt (Bsm.bit (ws2.drop l)) 0 (64 * (ws2.drop l).length) = c at hne
      exact beq_false_of_ne (by omega)
  have hdl : (ws2.drop l).length ≤ 10000 := by rw [List.length_drop]; omega
  have hdlt : ∀ q, (ws2.drop l).getD q 0 < 18446744073709551616 := fun q => by
    have := hlt2 (l + q)
    simpa [List.getD_eq_getElem?_getD, List.getElem?_drop] using this
  rw [hn] at c1 c2
  rw [hn2] at d1 d2 hS2 hcp2
  have hlen2 : (L2 + 63) / 64 = n2 := by omega
  have hlen1 : (L + 63) / 64 = n := by omega
  have hln : l ≤ n := by omega
  have hln2 : l ≤ n2 := by omega
  have hn5 : n ≤ 10000 := by omega
  have hn6 : n2 ≤ 10000 := by omega
  have hi1 : (0 : Int) ≤ (l : Int) := by omega
  have hi2 : (l : Int) ≤ (n2 : Int) := by omega
  have hi3 : (n2 : Int) ≤ (cap2 : Int) := by omega
  have hi4 : (l : Int) ≤ (cap2 : Int) := by omega
  have HC2 := Lib.hid c2
  have HD2 := Lib.hid d2
  have HB := Lib.hid hb
  have HB2 := Lib.hid hb2
  have HL := Lib.hid hl
  have HLEN1 := Lib.hid hlen1
  have HLEN2 := Lib.hid hlen2
  have HYES := Lib.hid hyes
  have HEND := Lib.hid hend
  have HDL := Lib.hid hdl
  have HDLT := Lib.hid hdlt
  have HS2 := Lib.hid hS2
  clear hb hb2 hlt hlt2 c2 d2 hS hS2 hn hn2 hl hout hyes hend hdl hdlt hwl hwl2 hbb hlen1 hlen2 hcp hcm
  by_cases hA : n < n2
  · have HL1 : Hid ((L + 63) / 64 = l) := by have := HL.out; have := HLEN1.out; show _ = l; omega
    have hcl : ¬ l = cap2 := by have := HL.out; omega
    go_enter Try.func68, Try.ntmps68
    go_wp2_with fail
    refine (wordcount_any B2 p2 L2 ws2 cap2 _ HB2.out (by omega) n2 HLEN2.out).mono ?_
    rintro e w' ⟨rfl, rfl⟩
    go_wp2_with fail
    refine (wordcount_any B p L ws cap _ HB.out (by omega) n HLEN1.out).mono ?_
    rintro e w' ⟨rfl, rfl⟩
    go_wp2_with fail
    refine (wordcount_any B p L ws cap _ HB.out (by omega) l HL1.out).mono ?_
    rintro e w' ⟨rfl, rfl⟩
    go_wp2_with fail
    go_loopg [23] l (fun k idx wr => SupLoop ws ws2 l w k idx wr)
    case atStart => exact ⟨0, rfl, by omega, fun q h => absurd h (Nat.not_lt_zero _), rfl⟩
    case round =>
      obtain ⟨i, rfl, hik, hsame, rfl⟩ := hrel
      have HSM := Lib.hid hsame
      clear hsame
      by_cases hi : i < l
      · cases gk with
        | zero => omega
        | succ k =>
          have h1 := HC2.out i (by omega)
          have h2 := HD2.out i (by omega)
          have hj1 : i < n := by omega
          have hj2 : i < n2 := by omega
          have hX := HB.out.word_lt i
          have hY := HB2.out.word_lt i
          have HY := Lib.hid (fun h => HYES.out h i)
          have hst : ws.getD i 0 &&& ws2.getD i 0 = ws2.getD i 0 → ∀ q, q < i + 1 → ws.getD q 0 &&& ws2.getD q 0 = ws2.getD q 0 := by
            intro h q hq
            by_cases e : q = i
            · rw [e]; exact h
            · exact HSM.out q (by omega)
          obtain ⟨X, hXX⟩ : ∃ X, ws.getD i 0 = X := ⟨_, rfl⟩
          obtain ⟨Y, hYY⟩ : ∃ Y, ws2.getD i 0 = Y := ⟨_, rfl⟩
          rw [hXX] at h1 hX HY hst
          rw [hYY] at h2 hY HY hst
          have hz : bits BinOp.and IntKind.u64 (X : Int) (Y : Int) = ((X &&& Y : Nat) : Int) := u64_and_nat X Y hX hY
          obtain ⟨Z, hZ⟩ : ∃ Z, X &&& Y = Z := ⟨_, rfl⟩
          rw [hZ] at hz HY hst
          have HST := Lib.hid hst
          clear hX hY hXX hYY hZ hst
          by_cases e : Z = Y
          · have hne : ((Z : Int) != (Y : Int)) = false := by simp; omega
            have E := Lib.hid e
            clear e
            go_wp2_with fail
            go_roundg k
            case measure => omega
            case rel => exact ⟨i + 1, by go_num, by omega, HST.out E.out, rfl⟩
          · have hne : ((Z : Int) != (Y : Int)) = true := by simp; omega
            have HBF : Hid (bb = false) := by
              cases hbv : bb with
              | false => exact rfl
              | true => exact absurd (HY.out hbv) e
            clear e
            go_wp2_with fail
            go_ret
            exact ⟨ret_bool HBF.out.symm, 0, rfl⟩
      · obtain rfl : i = l := by omega
        obtain ⟨V, hV⟩ : ∃ V, Bsm.cnt (Bsm.bit (ws2.drop i)) 0 (64 * (ws2.drop i).length) = V := ⟨_, rfl⟩
        have hfin := HEND.out HSM.out
        rw [hV] at hfin
        have HF := Lib.hid hfin
        have HV := Lib.hid hV
        have HSD : Hid (Sl wr (.slice (some ⟨g2, i, none⟩) (n2 - i) (cap2 - i)) (u64s (ws2.drop i))) := by
          by_cases hc : i < n2
          · have := HS2.out.drop i hc
            rw [Nat.zero_add] at this
            exact this
          · have hnil : ws2.drop i = [] := List.drop_eq_nil_of_le (by have := HS2.out.length; rw [u64s_len] at this; omega)
            rw [hnil]
            exact ⟨_, _, _, rfl, by simp [u64s]; omega, by omega, by unfold maxLen; omega, fun h => by omega⟩
        have hneq : ¬ i = cap2 := by omega
        clear hfin hV
        go_wp2_with fail
        refine (popsl_any _ (ws2.drop i) _ HSD.out HDL.out HDLT.out).mono ?_
        rintro e w' ⟨rfl, m, rfl⟩
        rw [HV.out]
        go_wp2_with fail
        go_ret
        exact ⟨ret_bool HF.out, m, rfl⟩
  · have HL1 : Hid ((L2 + 63) / 64 = l) := by have := HL.out; have := HLEN2.out; show _ = l; omega
    have hd1 : decide (n < l) = false := by have := HL.out; simp; omega
    by_cases hcl : l = cap2
    · have e2 : l = n2 := by omega
      have e3 : l = cap2 := hcl
      clear hcl
      subst e2
      subst e3
      go_enter Try.func68, Try.ntmps68
      go_wp2_with fail
      refine (wordcount_any B2 p2 L2 ws2 l _ HB2.out (by omega) l HL1.out).mono ?_
      rintro e w' ⟨rfl, rfl⟩
      go_wp2_with fail
      refine (wordcount_any B p L ws cap _ HB.out (by omega) n HLEN1.out).mono ?_
      rintro e w' ⟨rfl, rfl⟩
      go_wp2_with fail
      go_loopg [23] l (fun k idx wr => SupLoop ws ws2 l w k idx wr)
      case atStart => exact ⟨0, rfl, by omega, fun q h => absurd h (Nat.not_lt_zero _), rfl⟩
      case round =>
        obtain ⟨i, rfl, hik, hsame, rfl⟩ := hrel
        have HSM := Lib.hid hsame
        clear hsame
        by_cases hi : i < l
        · cases gk with
          | zero => omega
          | succ k =>
            have h1 := HC2.out i (by omega)
            have h2 := HD2.out i (by omega)
            have hj1 : i < n := by omega
            have hj2 : i < l := by omega
            have hX := HB.out.word_lt i
            have hY := HB2.out.word_lt i
            have HY := Lib.hid (fun h => HYES.out h i)
            have hst : ws.getD i 0 &&& ws2.getD i 0 = ws2.getD i 0 → ∀ q, q < i + 1 → ws.getD q 0 &&& ws2.getD q 0 = ws2.getD q 0 := by
              intro h q hq
              by_cases e : q = i
              · rw [e]; exact h
              · exact HSM.out q (by omega)
            obtain ⟨X, hXX⟩ : ∃ X, ws.getD i 0 = X := ⟨_, rfl⟩
            obtain ⟨Y, hYY⟩ : ∃ Y, ws2.getD i 0 = Y := ⟨_, rfl⟩
            rw [hXX] at h1 hX HY hst
            rw [hYY] at h2 hY HY hst
            have hz : bits BinOp.and IntKind.u64 (X : Int) (Y : Int) = ((X &&& Y : Nat) : Int) := u64_and_nat X Y hX hY
            obtain ⟨Z, hZ⟩ : ∃ Z, X &&& Y = Z := ⟨_, rfl⟩
            rw [hZ] at hz HY hst
            have HST := Lib.hid hst
            clear hX hY hXX hYY hZ hst
            by_cases e : Z = Y
            · have hne : ((Z : Int) != (Y : Int)) = false := by simp; omega
              have E := Lib.hid e
              clear e
              go_wp2_with fail
              go_roundg k
              case measure => omega
              case rel => exact ⟨i + 1, by go_num, by omega, HST.out E.out, rfl⟩
            · have hne : ((Z : Int) != (Y : Int)) = true := by simp; omega
              have HBF : Hid (bb = false) := by
                cases hbv : bb with
                | false => exact rfl
                | true => exact absurd (HY.out hbv) e
              clear e
              go_wp2_with fail
              go_ret
              exact ⟨ret_bool HBF.out.symm, 0, rfl⟩
        · obtain rfl : i = l := by omega
          obtain ⟨V, hV⟩ : ∃ V, Bsm.cnt (Bsm.bit (ws2.drop i)) 0 (64 * (ws2.drop i).length) = V := ⟨_, rfl⟩
          have hfin := HEND.out HSM.out
          rw [hV] at hfin
          have HF := Lib.hid hfin
          have HV := Lib.hid hV
          have HSD : Hid (Sl wr (.slice (some ⟨g2, 0, none⟩) 0 0) (u64s (ws2.drop i))) := by
            have hnil : ws2.drop i = [] := List.drop_eq_nil_of_le (by have := HS2.out.length; rw [u64s_len] at this; omega)
            rw [hnil]
            exact ⟨_, _, _, rfl, by simp [u64s], by omega, by unfold maxLen; omega, fun h => by omega⟩
          clear hfin hV
          go_wp2_with fail
          refine (popsl_any _ (ws2.drop i) _ HSD.out HDL.out HDLT.out).mono ?_
          rintro e w' ⟨rfl, m, rfl⟩
          rw [HV.out]
          go_wp2_with fail
          go_ret
          exact ⟨ret_bool HF.out, m, rfl⟩
    · go_enter Try.func68, Try.ntmps68
      go_wp2_with fail
      refine (wordcount_any B2 p2 L2 ws2 cap2 _ HB2.out (by omega) l HL1.out).mono ?_
      rintro e w' ⟨rfl, rfl⟩
      go_wp2_with fail
      refine (wordcount_any B p L ws cap _ HB.out (by omega) n HLEN1.out).mono ?_
      rintro e w' ⟨rfl, rfl⟩
      go_wp2_with fail
      go_loopg [23] l (fun k idx wr => SupLoop ws ws2 l w k idx wr)
      case atStart => exact ⟨0, rfl, by omega, fun q h => absurd h (Nat.not_lt_zero _), rfl⟩
      case round =>
        obtain ⟨i, rfl, hik, hsame, rfl⟩ := hrel
        have HSM := Lib.hid hsame
        clear hsame
        by_cases hi : i < l
        · cases gk with
          | zero => omega
          | succ k =>
            have h1 := HC2.out i (by omega)
            have h2 := HD2.out i (by omega)
            have hj1 : i < n := by omega
            have hj2 : i < n2 := by omega
            have hX := HB.out.word_lt i
            have hY := HB2.out.word_lt i
            have HY := Lib.hid (fun h => HYES.out h i)
            have hst : ws.getD i 0 &&& ws2.getD i 0 = ws2.getD i 0 → ∀ q, q < i + 1 → ws.getD q 0 &&& ws2.getD q 0 = ws2.getD q 0 := by
              intro h q hq
              by_cases e : q = i
              · rw [e]; exact h
              · exact HSM.out q (by omega)
            obtain ⟨X, hXX⟩ : ∃ X, ws.getD i 0 = X := ⟨_, rfl⟩
            obtain ⟨Y, hYY⟩ : ∃ Y, ws2.getD i 0 = Y := ⟨_, rfl⟩
            rw [hXX] at h1 hX HY hst
            rw [hYY] at h2 hY HY hst
            have hz : bits BinOp.and IntKind.u64 (X : Int) (Y : Int) = ((X &&& Y : Nat) : Int) := u64_and_nat X Y hX hY
            obtain ⟨Z, hZ⟩ : ∃ Z, X &&& Y = Z := ⟨_, rfl⟩
            rw [hZ] at hz HY hst
            have HST := Lib.hid hst
            clear hX hY hXX hYY hZ hst
            by_cases e : Z = Y
            · have hne : ((Z : Int) != (Y : Int)) = false := by simp; omega
              have E := Lib.hid e
              clear e
              go_wp2_with fail
              go_roundg k
              case measure => omega
              case rel => exact ⟨i + 1, by go_num, by omega, HST.out E.out, rfl⟩
            · have hne : ((Z : Int) != (Y : Int)) = true := by simp; omega
              have HBF : Hid (bb = false) := by
                cases hbv : bb with
                | false => exact rfl
                | true => exact absurd (HY.out hbv) e
              clear e
              go_wp2_with fail
              go_ret
              exact ⟨ret_bool HBF.out.symm, 0, rfl⟩
        · obtain rfl : i = l := by omega
          obtain ⟨V, hV⟩ : ∃ V, Bsm.cnt (Bsm.bit (ws2.drop i)) 0 (64 * (ws2.drop i).length) = V := ⟨_, rfl⟩
          have hfin := HEND.out HSM.out
          rw [hV] at hfin
          have HF := Lib.hid hfin
          have HV := Lib.hid hV
          have HSD : Hid (Sl wr (.slice (some ⟨g2, i, none⟩) (n2 - i) (cap2 - i)) (u64s (ws2.drop i))) := by
            by_cases hc : i < n2
            · have := HS2.out.drop i hc
              rw [Nat.zero_add] at this
              exact this
            · have hnil : ws2.drop i = [] := List.drop_eq_nil_of_le (by have := HS2.out.length; rw [u64s_len] at this; omega)
              rw [hnil]
              exact ⟨_, _, _, rfl, by simp [u64s]; omega, by omega, by unfold maxLen; omega, fun h => by omega⟩
          have hneq : ¬ i = cap2 := by omega
          clear hfin hV
          go_wp2_with fail
          refine (popsl_any _ (ws2.drop i) _ HSD.out HDL.out HDLT.out).mono ?_
          rintro e w' ⟨rfl, m, rfl⟩
          rw [HV.out]
          go_wp2_with fail
          go_ret
          exact ⟨ret_bool HF.out, m, rfl⟩

set_option maxRecDepth 100000 in
set_option maxHeartbeats 1000000 in
theorem strict_any (B B2 p p2 L L2 : Nat) (ws ws2 : List Nat) (cap cap2 : Nat) (w : World) (hb : Bs B w p L ws cap) (hb2 : Bs B2 w p2 L2 ws2 cap2) (hL : L ≤ 10000) (hL2 : L2 ≤ 10000)
    (hwl : ws.length = (L + 63) / 64) (hwl2 : ws2.length = (L2 + 63) / 64) (bb : Bool) (hbb : bb = true ↔ ∀ j, Bsm.bit ws2 j = true → Bsm.bit ws j = true) :
    Calls Try.prog 69 #[.pointer (some ⟨p, 0, none⟩), .pointer (some ⟨p2, 0, none⟩)] w fun e w' =>
      e = .returned (.bool (decide (Bsm.cnt (Bsm.bit ws2) 0 (64 * ws2.length) < Bsm.cnt (Bsm.bit ws) 0 (64 * ws.length)) && bb)) ∧ ∃ m, w' = w.drewN m := by
  have hc1 := fun m => count_any B p L ws cap (w.drewN m) (hb.drewN m) (by omega)
  have hc2 := fun m => count_any B2 p2 L2 ws2 cap2 (w.drewN m) (hb2.drewN m) (by omega)
  have hsu := fun m => super_any B B2 p p2 L L2 ws ws2 cap cap2 (w.drewN m) (hb.drewN m) (hb2.drewN m) hL hL2 hwl hwl2 bb hbb
  obtain ⟨V, hV⟩ : ∃ V, Bsm.cnt (Bsm.bit ws) 0 (64 * ws.length) = V := ⟨_, rfl⟩
  obtain ⟨V2, hV2⟩ : ∃ V, Bsm.cnt (Bsm.bit ws2) 0 (64 * ws2.length) = V := ⟨_, rfl⟩
  rw [hV, hV2]
  rw [hV] at hc1
  rw [hV2] at hc2
  have H1 := Lib.hid hc1
  have H2 := Lib.hid hc2
  have HSU := Lib.hid hsu
  clear hc1 hc2 hsu hb hb2 hwl hwl2 hbb hV hV2
  by_cases hlt : V2 < V
  · have hd : decide (V2 < V) = true := by simpa using hlt
    go_enter Try.func69, Try.ntmps69
    go_wp2_with fail
    refine (H1.out 0).mono ?_
    rintro e w1 ⟨rfl, m1, rfl⟩
    go_wp2_with fail
    refine (H2.out _).mono ?_
    rintro e w2 ⟨rfl, m2, rfl⟩
    go_wp2_with fail
    refine (HSU.out _).mono ?_
    rintro e w3 ⟨rfl, m3, rfl⟩
    go_wp2_with fail
    go_ret
    exact ⟨ret_bool (by simp [hlt]), _, by first | rfl | (simp only [World.drewN_drewN]; rfl)⟩
  · have hd : decide (V2 < V) = false := by simpa using hlt
    go_enter Try.func69, Try.ntmps69
    go_wp2_with fail
    refine (H1.out 0).mono ?_
    rintro e w1 ⟨rfl, m1, rfl⟩
    go_wp2_with fail
    refine (H2.out _).mono ?_
    rintro e w2 ⟨rfl, m2, rfl⟩
    go_wp2_with fail
    go_ret
    exact ⟨ret_bool (by simp [hlt]), _, by first | rfl | (simp only [World.drewN_drewN]; rfl)⟩
end Go.Proofs.Ytbgmkojiklphmaa
