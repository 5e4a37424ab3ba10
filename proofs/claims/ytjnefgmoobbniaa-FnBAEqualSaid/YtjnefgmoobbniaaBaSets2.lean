/- Walks of the references BADrop, BASame, BACapacity. -/
import Derived.Test.YtjnefgmoobbniaaBaSearch
namespace Go.Proofs.Ytjnefgmoobbniaa
set_option linter.unusedVariables false
open Go.RowKit Bam

set_option maxHeartbeats 1000000 in
theorem drop_any (v : Value) (S : List Nat) (k : Nat) (w : World) (hv : Us w v S) (hn : S.length ≤ 100000) :
    Calls Try.prog 18 #[v, .int .u64 (k : Int)] w fun e w' => ∃ v', e = .returned v' ∧ Us w' v' (sDrop S k) ∧ Below w.heap.size w w' := by
  have hat := fun w' h => at_any v S k w' h (by omega)
  have hhas := fun w' h => has_any v S k w' h (by omega)
  unfold sDrop
  have HV := Lib.hid hv
  have HA := Lib.hid hat
  have HH := Lib.hid hhas
  have hmlt : sHas S k = true → sAt S k < S.length := fun h => by
    unfold sHas at h; rw [decide_eq_true_eq] at h; exact (List.getElem?_eq_some_iff.1 h).1
  generalize sAt S k = m at *
  have hcs := hv.cases
  clear hv hat hhas
  cases hb : sHas S k with
  | false =>
    rw [hb] at HH
    obtain ⟨a, cap, rfl, _⟩ := HV.out.shape
    clear hcs hb hmlt
    rw [if_neg (by simp)]
    go_enter Try.func18, Try.ntmps18
    go_wp2_with fail
    refine (HH.out _ HV.out).mono ?_
    rintro e w' ⟨rfl, rfl⟩
    go_wp2_with fail
    go_ret
    exact ⟨_, rfl, HV.out, Below.refl _ _⟩
  | true =>
    have hlt := hmlt hb
    rw [hb] at HH
    rw [if_pos rfl]
    clear hb hmlt
    rcases hcs with ⟨rfl, rfl⟩ | ⟨g, cap, rfl, hg, hc1, hc2, _⟩
    · simp at hlt
    · obtain ⟨n, hN⟩ : ∃ n, n = S.length := ⟨_, rfl⟩
      have HN := Lib.hid hN
      rw [← hN] at hlt hc1 hn HH HA HV ⊢
      clear hN
      have hmc : m ≤ cap := by omega
      have hmc2 : (m : Int) ≤ (cap : Int) := by omega
      go_enter Try.func18, Try.ntmps18
      go_wp2_with fail
      refine (HH.out _ HV.out).mono ?_
      rintro e w' ⟨rfl, rfl⟩
      go_wp2_with fail
      refine (HA.out _ HV.out).mono ?_
      rintro e w' ⟨rfl, rfl⟩
      have hsl1 := HV.out.part (a := some ⟨g, 0, none⟩) (n := m) (lo := 0) (hi := m) (cap' := cap) (Nat.zero_le _) (by rw [← HN.out]; omega) (by omega) (fun g' cap' e _ => by injection e) hmc hc2
      have hlm : (u64s (S.take m)).length = m := by rw [u64s_len, List.length_take, ← HN.out]; omega
      have hlm2 : (S.drop 0).take (m - 0) = S.take m := by rw [List.drop_zero, Nat.sub_zero]
      rw [hlm2] at hsl1
      have HL1 := Lib.hid hsl1
      have HM := Lib.hid hlm
      have hnS : S.length = n := HN.out.symm
      have HNS := Lib.hid hnS
      obtain ⟨a2, hif⟩ : ∃ a2, (if cap = m + 1 then some (⟨g, 0, none⟩ : Addr) else some ⟨g, m + 1, none⟩) = a2 := ⟨_, rfl⟩
      have hsl2 := HV.out.part (a := a2) (n := n - (m + 1)) (lo := m + 1) (hi := n) (cap' := cap - (m + 1)) hlt (by rw [HNS.out]; exact Nat.le_refl _) rfl (fun g' cap' e h => by injection e with e1 e2 e3; injection e1 with e1; injection e1 with e1; rw [← hif, if_neg (by omega), e1]) (by omega) (by omega)
      have hl2 : (S.drop (m + 1)).take (n - (m + 1)) = S.drop (m + 1) := List.take_of_length_le (by rw [List.length_drop, HNS.out]; exact Nat.le_refl _)
      rw [hl2] at hsl2
      have TL : Hid (∀ w', Below w.heap.size w w' → Sl w' (.slice a2 (n - (m + 1)) (cap - (m + 1))) (u64s (S.drop (m + 1)))) := Lib.hid (fun w' h => hsl2.later h)
      have g1 : (m : Int) + 1 ≤ (cap : Int) := by omega
      have g2 : m + 1 ≤ cap := by omega
      have g3 : (0 : Int) ≤ (m : Int) + 1 := by omega
      have g4 : ((m : Int) + 1).toNat = m + 1 := by omega
      have g5 : (m : Int) + 1 ≤ (n : Int) := by omega
      have g6 : m + 1 ≤ n := by omega
      clear hsl1 hlm hlm2 hnS hsl2 hl2
      go_wp2_with (first
        | (at_builtin; refine wpList_appendSl rfl (.tmp 15) (.tmp 18) 23 23 rfl w.heap.size 30 30 (.int .u64 0) 8 Try.underlying23 Try.underlying23 info_u64 rfl _ 0 [] rfl (own_empty w _ _ (Nat.le_refl _)) _ (u64s (S.take m)) rfl (HL1.out.later ((Below.refl _ _).alloc (Nat.le_refl _) _)) (u64s_one _) (by rw [HM.out]; unfold maxLen; omega) (by rw [HM.out]; omega) (by simp) ?_; intro p1 m1 cap1 w1 hown1 hg1 hb1; have OW := Lib.hid hown1; have HB1 := Lib.hid (((Below.refl w.heap.size w).alloc (Nat.le_refl _) (.cells #[] 30)).trans hb1); clear hown1 hg1 hb1)
        | (at_builtin; refine wpList_appendSl rfl (.tmp 20) (.tmp 24) 23 23 rfl w.heap.size 30 30 (.int .u64 0) 8 Try.underlying23 Try.underlying23 info_u64 rfl _ _ _ rfl OW.out _ (u64s (S.drop (m + 1))) rfl (TL.out _ HB1.out) (u64s_one _) (by rw [HM.out, u64s_len, List.length_drop, HNS.out]; unfold maxLen; omega) (by rw [HM.out, u64s_len, List.length_drop, HNS.out]; omega) HB1.out.size ?_; intro p2 m2 cap2 w2 hown2 hg2 hb2; have OW2 := Lib.hid hown2; have HB2 := Lib.hid (HB1.out.trans hb2); clear hown2 hg2 hb2))
      go_ret
      have h8 := OW2.out
      have e8 : [] ++ u64s (S.take m) ++ u64s (S.drop (m + 1)) = u64s (S.take m ++ S.drop (m + 1)) := by simp [u64s]
      rw [e8] at h8
      exact ⟨.slice p2 m2 cap2, rfl, Us.of h8, HB2.out⟩

def SameRel (A B : List Nat) (w : World) (n k : Nat) (idx : Value) (wr : World) : Prop := ∃ i : Nat, idx = .int .i64 (i : Int) ∧ i + k = n ∧ (∀ j, j < i → A.getD j 0 = B.getD j 0) ∧ ∃ nq, wr = w.drewN nq

theorem same_of {A B : List Nat} (hl : A.length = B.length) (h : ∀ j, j < A.length → A.getD j 0 = B.getD j 0) : A = B := by
  apply List.ext_getElem hl
  intro j h1 h2
  have := h j h1
  simpa [List.getD_eq_getElem?_getD, h1, h2] using this

set_option maxHeartbeats 1000000 in
theorem same_any (v1 v2 : Value) (A B : List Nat) (w : World) (h1 : Us w v1 A) (h2 : Us w v2 B) (hn : A.length ≤ 100000) (hn2 : B.length ≤ 100000) :
    Calls Try.prog 9 #[v1, v2] w fun e w' => e = .returned (.bool (decide (A = B))) ∧ ∃ nq, w' = w.drewN nq := by
  obtain ⟨a, c, rfl, hr1⟩ := h1.shape
  obtain ⟨b, d, rfl, hr2⟩ := h2.shape
  obtain ⟨n, hN⟩ : ∃ n, n = A.length := ⟨_, rfl⟩
  obtain ⟨m, hM⟩ : ∃ m, m = B.length := ⟨_, rfl⟩
  rw [← hN] at hn hr1 ⊢
  rw [← hM] at hn2 hr2 ⊢
  have HN := Lib.hid hN
  have HM := Lib.hid hM
  by_cases hne : n = m
  · have HNE := Lib.hid hne
    have HR1 := Lib.hid hr1
    have HR2 := Lib.hid hr2
    subst hne
    clear h1 h2 hN hM hr1 hr2
    go_enter Try.func9, Try.ntmps9
    go_wp2_with fail
    go_loopg [5] n (fun k idx wr => SameRel A B w n k idx wr)
    case atStart => exact ⟨0, rfl, by omega, fun j hj => absurd hj (Nat.not_lt_zero _), 0, rfl⟩
    case round =>
      obtain ⟨i, rfl, hik, heq, nq, rfl⟩ := hrel
      have HEQ := Lib.hid heq
      clear heq
      by_cases hi : i < n
      · obtain ⟨g1, rfl, hc1⟩ := HR1.out (by omega)
        obtain ⟨g2, rfl, hc2⟩ := HR2.out (by omega)
        have k1 := hc1 i (by omega)
        have k2 := hc2 i (by omega)
        obtain ⟨X, hX⟩ : ∃ X, A.getD i 0 = X := ⟨_, rfl⟩
        obtain ⟨Y, hY⟩ : ∃ Y, B.getD i 0 = Y := ⟨_, rfl⟩
        rw [hX] at k1
        rw [hY] at k2
        have HX := Lib.hid hX
        have HY := Lib.hid hY
        have i1 : (i : Int) < (n : Int) := by omega
        have i2 : (0 : Int) ≤ (i : Int) := by omega
        clear hc1 hc2 hX hY
        cases gk with
        | zero => omega
        | succ k =>
          by_cases e : X = Y
          · subst e
            have he : ((X : Int) != (X : Int)) = false := by simp
            go_wp2_with fail
            go_quiet (fail)
            go_wp2_with fail
            go_roundg k
            case measure => omega
            case rel => exact ⟨i + 1, by go_num, by omega, fun j hj => by
                          by_cases e : j = i
                          · subst e; rw [HX.out, HY.out]
                          · exact HEQ.out j (by omega), _, by first | rfl | rw [World.drewN_drewN]⟩
          · have he : ((X : Int) != (Y : Int)) = true := by simp; omega
            have HE := Lib.hid e
            clear e
            go_wp2_with fail
            go_quiet (fail)
            go_wp2_with fail
            go_ret
            exact ⟨ret_bool (by
              have : A ≠ B := fun h => HE.out (by rw [← HX.out, ← HY.out, h])
              simp [this]), _, by first | rfl | rw [World.drewN_drewN]⟩
      · obtain rfl : i = n := by omega
        go_wp2_with fail
        go_ret
        exact ⟨ret_bool (by
          have : A = B := same_of (by rw [← HN.out, ← HM.out]) (fun j hj => HEQ.out j (by rw [HN.out]; exact hj))
          simp [this]), nq, rfl⟩
  · have hne2 : ((n : Int) != (m : Int)) = true := by simp; omega
    have HNE := Lib.hid hne
    clear hr1 hr2 h1 h2 hN hM hne
    go_enter Try.func9, Try.ntmps9
    go_wp2_with fail
    go_ret
    exact ⟨ret_bool (by
      have : A ≠ B := fun h => HNE.out (by rw [HN.out, HM.out, h])
      simp [this]), 0, rfl⟩

/-- the capacity of a sparse reference -/
theorem bacap_any (v : Value) (S : List Nat) (words : Nat) (w : World) (hv : Us w v S) (hn : S.length ≤ 100000) (hb : ∀ x ∈ S, x < 1152921504606846976) :
    Calls Try.prog 20 #[.agg #[.bool false, .int .u64 (words : Int), v]] w fun e w' => e = .returned (.int .u64 ((sCap S : Nat) : Int)) ∧ Below w.heap.size w w' := by
  obtain ⟨a, c, rfl, hr⟩ := hv.shape
  obtain ⟨n, hN⟩ : ∃ n, n = S.length := ⟨_, rfl⟩
  by_cases hz : S.length = 0
  · have he : sCap S = 0 := by
      obtain rfl : S = [] := List.eq_nil_of_length_eq_zero hz
      rfl
    rw [he]
    rw [hz]
    clear hr hb he hv hN
    go_enter Try.func20, Try.ntmps20
    go_wp2_with fail
    go_ret
    exact ⟨rfl, (Below.refl _ _).alloc (Nat.le_refl _) _⟩
  · obtain ⟨g, rfl, hc⟩ := hr (by omega)
    obtain ⟨m, hm⟩ : ∃ m, S.length = m + 1 := ⟨S.length - 1, by omega⟩
    have hcm := hc m (by omega)
    have hgl : S.getLast? = some (S.getD m 0) := by
      rw [List.getLast?_eq_getElem?, hm, Nat.add_sub_cancel, List.getElem?_eq_getElem (by omega)]
      simp [List.getD_eq_getElem?_getD, show m < S.length from by omega]
    have he : sCap S = 64 * (S.getD m 0 / 64 + 1) := by unfold sCap; rw [hgl]
    have hx : S.getD m 0 < 1152921504606846976 := hb _ (List.mem_of_getLast? hgl)
    rw [he]
    obtain ⟨X, hX⟩ : ∃ X, S.getD m 0 = X := ⟨_, rfl⟩
    rw [hX] at hcm hx ⊢
    rw [← hN] at hm hn ⊢
    have k1 : IntKind.i64.wrap ((n : Int) - 1) = (m : Int) := by rw [IntWalk.i64_in _ (by omega)]; omega
    have k1b : (n : Int) - 1 = (m : Int) := by omega
    have k2 : (m : Int) < (n : Int) := by omega
    have k3 : (0 : Int) ≤ (m : Int) := by omega
    have k4 : m < n := by omega
    have k5 : ((n : Int) == 0) = false := by rw [beq_eq_false_iff_ne]; omega
    have hlt := World.block_lt_of_cell? w _ hcm
    clear hr hc hb he hX hN hv hgl hz hm
    go_enter Try.func20, Try.ntmps20
    go_wp2_with fail
    go_ret
    exact ⟨ret_int (by omega), (Below.refl _ _).alloc (Nat.le_refl _) _⟩
end Go.Proofs.Ytjnefgmoobbniaa
