/- Walk of nand of a sparse array with a dense one. -/
import Derived.Test.YtjnefgmoobbniaaGreatBaAndDe
namespace Go.Proofs.YtjnefgmoobbniaaGreat
set_option linter.unusedVariables false
open Go.RowKit Bam

theorem nandD_take (ps : Ps) (W : List Nat) (i : Nat) (h : i < ps.length) {X A R : Nat} (h1 : ps.getD i (0, 0) = (X, A)) (h2 : A ^^^ (A &&& W.getD X 0) = R) :
    nandD (ps.take (i + 1)) W = nandD (ps.take i) W ++ (if R = 0 then [] else [(X, R)]) := by
  rw [List.take_succ_eq_append_getElem h, nandD_append]
  rw [List.getD_eq_getElem?_getD, List.getElem?_eq_getElem h] at h1
  simp only [Option.getD_some] at h1
  rw [h1]
  simp only [nandD, List.append_nil, h2]
theorem nandD_len (ps : Ps) (W : List Nat) : (nandD ps W).length ≤ ps.length := by
  induction ps with
  | nil => exact Nat.le_refl _
  | cons q ps ih =>
    obtain ⟨i, a⟩ := q
    simp only [nandD, List.length_append, List.length_cons]
    split
    · simp; omega
    · simp; omega

def NdRel (ps : Ps) (W : List Nat) (n : Nat) (w : World) (k : Nat) (s5 s6 s27 : Value) (wr : World) : Prop :=
  ∃ (i : Nat) (acc : Ps), s27 = .int .i64 (i : Int) ∧ i + k = n ∧ AccAt wr w.heap.size s5 s6 acc ∧ acc = nandD (ps.take i) W ∧ acc.length ≤ i ∧ Below w.heap.size w wr

set_option maxRecDepth 100000 in
set_option maxHeartbeats 4000000 in
theorem nandsd_any (p q : Nat) (F G : List Nat) (ps : Ps) (W : List Nat) (w : World) (h : SpAt w p F ps) (k : DeW w q G W) (ho1 : Ok ps) (nz : Nz ps) (ho2 : W64 W) (hn : ps.length ≤ 1000) (hm : W.length ≤ 9000) :
    Calls Tryz.prog 118 #[.pointer (some ⟨p, 0, none⟩), .pointer (some ⟨q, 0, none⟩)] w fun e w' =>
      ∃ (r : Nat) (H : List Nat), e = .returned (.iface 82 (.pointer (some ⟨r, 0, none⟩))) ∧ SpAt w' r H (nandD ps W) ∧ (∀ x ∈ H, w.heap.size ≤ x) ∧ Below w.heap.size w w' := by
  obtain ⟨a1, c1, a2, c2, n, hp⟩ := h.pairs
  obtain ⟨b1, d1, m, hq⟩ := DeAt.wat k
  have HP := Lib.hid hp
  have HQ := Lib.hid hq
  have HO1 := Lib.hid ho1
  have HO2 := Lib.hid ho2
  have HNZ := Lib.hid nz
  obtain ⟨hpn, p0, p1, -⟩ := hp
  obtain ⟨hqn, q0, -⟩ := hq
  have HPN := Lib.hid hpn
  have HQN := Lib.hid hqn
  rw [← hpn] at hn
  rw [← hqn] at hm
  have hself : w.heap.size ≤ w.heap.size := Nat.le_refl _
  have HBS := Lib.hid (Below.refl w.heap.size w)
  clear hpn hqn h k ho1 ho2 nz
  go_enter Tryz.func118, Tryz.ntmps118
  go_wp2_with (first
    | (at_make; refine wpList_make2 rfl _ _ 92 rfl w.heap.size 34 (.int .u64 0) 8 Tryz.underlying92 info_u64 rfl _ _ _ _ 0 n rfl rfl rfl rfl (Nat.zero_le _) (by omega) (by unfold maxLen; omega) hself ?_; intro w1 hown1 hb1 hs1; have HOW1 := Lib.hid hown1; have HB1 := Lib.hid hb1; have hs1' := HB1.out.size; have r0 := cell_below hb1 (Nat.le_refl _) p0; have r1 := cell_below hb1 (Nat.le_refl _) p1; clear hown1 hb1 hs1 p0 p1)
    | (at_make; refine wpList_make2 rfl _ _ 91 rfl w.heap.size 74 (.int .u64 0) 8 Tryz.underlying91 info_blk rfl _ _ _ _ 0 n rfl rfl rfl rfl (Nat.zero_le _) (by omega) (by unfold maxLen; omega) hs1' ?_; intro w2 hown2 hb2 hs2; have HOW2 := Lib.hid hown2; have HO12 := Lib.hid (own_below HOW1.out hb2); have HB2 := Lib.hid (HB1.out.trans (hb2.mono hs1')); have s0 := cell_below HB2.out (Nat.le_refl _) HP.out.2.1; have s1 := cell_below HB2.out (Nat.le_refl _) HP.out.2.2.1; clear hown2 hb2 hs2 r0 r1))
  have hs2 := HB2.out.size
  go_loopg [5, 6, 27] n (fun k s5 s6 s27 wr => NdRel ps W n w k s5 s6 s27 wr)
  case atStart => exact ⟨0, [], rfl, by omega, ⟨_, _, _, _, rfl, rfl, HO12.out, HOW2.out⟩, rfl, Nat.le_refl _, HB2.out⟩
  case round =>
    obtain ⟨i, acc, rfl, hik, hacc, hand, hal, hbel⟩ := hrel
    obtain ⟨a6, c6, a7, c7, rfl, rfl, o6, o7⟩ := hacc
    obtain ⟨z, hz⟩ : ∃ z, acc.length = z := ⟨_, rfl⟩
    rw [hz] at o6 o7 hal ⊢
    have HZ := Lib.hid hz
    have HO6 := Lib.hid o6
    have HO7 := Lib.hid o7
    have HAND := Lib.hid hand
    have HBE := Lib.hid hbel
    have hsr := hbel.size
    obtain ⟨-, p0, p1, pc⟩ := HP.out
    obtain ⟨-, q0, qc⟩ := HQ.out
    replace p0 := cell_below hbel (Nat.le_refl _) p0
    replace p1 := cell_below hbel (Nat.le_refl _) p1
    replace q0 := cell_below hbel (Nat.le_refl _) q0
    have HPC := Lib.hid pc
    have HQC := Lib.hid qc
    clear hz o6 o7 hand s0 s1 pc qc
    by_cases hi : i < n
    · have hil : i < ps.length := by rw [← HPN.out]; exact hi
      obtain ⟨g1, g2, rfl, rfl, u1, u2⟩ := HPC.out i hi
      replace u1 := cell_below hbel (Nat.le_refl _) u1
      replace u2 := cell_below hbel (Nat.le_refl _) u2
      have hmem : ps.getD i (0, 0) ∈ ps := by rw [List.getD_eq_getElem?_getD, List.getElem?_eq_getElem hil]; exact List.getElem_mem _
      have hA : (ps.getD i (0, 0)).2 < 18446744073709551616 := HO1.out.2 _ hmem
      have hA0 : (ps.getD i (0, 0)).2 ≠ 0 := HNZ.out _ hmem
      obtain ⟨X, hX⟩ : ∃ X, (ps.getD i (0, 0)).1 = X := ⟨_, rfl⟩
      obtain ⟨A, hA2⟩ : ∃ A, (ps.getD i (0, 0)).2 = A := ⟨_, rfl⟩
      obtain ⟨R, hR⟩ : ∃ R, A ^^^ (A &&& W.getD X 0) = R := ⟨_, rfl⟩
      have htk := nandD_take ps W i hil (X := X) (A := A) (R := R) (by rw [← hX, ← hA2]) hR
      rw [hX] at u2
      rw [hA2] at u1 hA hA0
      have hB : W.getD X 0 < 18446744073709551616 := getD_lt HO2.out X
      have i0 : decide (i < n) = true := by rw [decide_eq_true_iff]; exact hi
      have i1 : (i : Int) < (n : Int) := by omega
      have i2 : (0 : Int) ≤ (i : Int) := by omega
      have hmw : IntKind.u64.wrap (m : Int) = (m : Int) := u64wd m (by omega)
      have hzl : z ≤ 1000 := by omega
      have HTK := Lib.hid htk
      clear hX hA2 htk hmem
      cases gk with
      | zero => omega
      | succ k =>
        by_cases hXm : X < m
        · have t1 : decide (m ≤ X) = false := by rw [decide_eq_false_iff_not]; omega
          obtain ⟨g3, rfl, v1⟩ := HQC.out X hXm
          replace v1 := cell_below hbel (Nat.le_refl _) v1
          have hnd : ∀ w', Calls Tryz.prog 92 #[.int .u64 (A : Int), .int .u64 ((W.getD X 0 : Nat) : Int)] w' fun e w'' => e = .returned (.int .u64 (R : Int)) ∧ w'' = w' := fun w' => hR ▸ (bnand_any A _ hA hB w').mono fun _ _ h => ⟨h.1, h.2.symm⟩
          obtain ⟨B, hBe⟩ : ∃ B, W.getD X 0 = B := ⟨_, rfl⟩
          rw [hBe] at v1 hnd
          have HBA := Lib.hid hnd
          have x1 : (X : Int) < (m : Int) := by omega
          have x2 : (0 : Int) ≤ (X : Int) := by omega
          clear hR hnd hA hB hBe hbel hil
          by_cases h0 : R = 0
          · have t4 : decide (0 < R) = false := by rw [decide_eq_false_iff_not]; omega
            have H0 := Lib.hid h0
            clear h0
            go_wp2_with fail
            go_quiet ((go_at_call 92; exact Calls.quiet_of_same (HBA.out _)))
            go_wp2_with fail
            go_roundg k
            case measure => omega
            case rel => exact ⟨i + 1, acc, by go_num, by omega, by rw [← HZ.out]; exact AccAt.below ⟨_, _, _, _, rfl, rfl, HZ.out ▸ HO6.out, HZ.out ▸ HO7.out⟩ (below_drewN (Below.refl _ _) _), by rw [HTK.out, if_pos H0.out, List.append_nil]; exact HAND.out, by rw [HZ.out]; omega, below_drewN HBE.out _⟩
          · have t4 : decide (0 < R) = true := by rw [decide_eq_true_iff]; omega
            have H0 := Lib.hid h0
            clear h0
            go_wp2_with fail
            go_quiet ((go_at_call 92; exact Calls.quiet_of_same (HBA.out _)))
            obtain ⟨w4, hw4⟩ : ∃ w4, wr.drewN nq = w4 := ⟨_, rfl⟩
            have o6 : w4.ownsRow w.heap.size 34 1 (.slice a6 z c6) z (u64s (acc.map Prod.fst)) := hw4 ▸ HO6.out
            have o7 : w4.ownsRow w.heap.size 74 1 (.slice a7 z c7) z (u64s (acc.map Prod.snd)) := hw4 ▸ HO7.out
            have hb4 : Below w.heap.size w w4 := hw4 ▸ below_drewN HBE.out nq
            have hs4 := hb4.size
            rw [hw4]
            have HO64 := Lib.hid o6
            have HO74 := Lib.hid o7
            have HB4 := Lib.hid hb4
            clear o6 o7 hb4 hw4 u1 u2 v1 p0 p1 q0
            go_wp2_with (first
              | (at_builtin; refine wpList_append1 rfl _ _ 92 rfl w.heap.size 34 (.int .u64 0) 8 Tryz.underlying92 info_u64 rfl (.slice a6 z c6) z _ rfl HO64.out (.int .u64 (X : Int)) rfl rfl (by unfold maxLen; omega) (by omega) (by omega) ?_; intro g5 k5 w5 hown5 hg5 hb5; have HO65 := Lib.hid hown5; have HO75 := Lib.hid ((Fr.of_grown (v' := .slice a6 z c6) hg5 (fun k hk => .inl hk)).own HO74.out (row_row HO74.out HO64.out (by decide))); have HB5 := Lib.hid (HB4.out.trans hb5); have hs5 := HB5.out.size; clear hown5 hg5 hb5)
              | (at_builtin; refine wpList_append1 rfl _ _ 91 rfl w.heap.size 74 (.int .u64 0) 8 Tryz.underlying91 info_blk rfl (.slice a7 z c7) z _ rfl HO75.out (.int .u64 (R : Int)) rfl rfl (by unfold maxLen; omega) (by omega) (by omega) ?_; intro g6 k6 w6 hown6 hg6 hb6; have HO76 := Lib.hid hown6; have HO66 := Lib.hid ((Fr.of_grown (v' := .slice a7 z c7) hg6 (fun k hk => .inl hk)).own HO65.out (row_row HO65.out HO75.out (by decide))); have HB6 := Lib.hid (HB5.out.trans hb6); clear hown6 hg6 hb6))
            go_roundg k
            case measure => omega
            case rel =>
              have o6 := HO66.out
              have o7 := HO76.out
              have e1 : (acc ++ [(X, R)]).length = z + 1 := by rw [List.length_append, HZ.out]; rfl
              refine ⟨i + 1, acc ++ [(X, R)], by go_num, by omega, ⟨some ⟨g5, 0, none⟩, k5, some ⟨g6, 0, none⟩, k6, by rw [e1], by rw [e1], ?_, ?_⟩, ?_, by rw [e1]; omega, HB6.out⟩
              · rw [e1, List.map_append, u64s_append]; exact o6
              · rw [e1, List.map_append, u64s_append]; exact o7
              · rw [HTK.out, if_neg H0.out, ← HAND.out]
        · have t1 : decide (m ≤ X) = true := by rw [decide_eq_true_iff]; omega
          have hR2 : R = A := by
            rw [← hR, show W.getD X 0 = 0 by rw [List.getD_eq_getElem?_getD, List.getElem?_eq_none (by rw [← HQN.out]; omega)]; rfl]
            simp
          subst hR2
          obtain ⟨w4, hw4⟩ : ∃ w4, wr = w4 := ⟨_, rfl⟩
          have H0 : Hid (R ≠ 0) := Lib.hid hA0
          have HO64 := HO6
          have HO74 := HO7
          have HB4 := HBE
          have hs4 := hsr
          clear hR hA hB hA0 hbel hil hw4
          go_wp2_with (first
            | (at_builtin; refine wpList_append1 rfl _ _ 92 rfl w.heap.size 34 (.int .u64 0) 8 Tryz.underlying92 info_u64 rfl (.slice a6 z c6) z _ rfl HO64.out (.int .u64 (X : Int)) rfl rfl (by unfold maxLen; omega) (by omega) (by omega) ?_; intro g5 k5 w5 hown5 hg5 hb5; have HO65 := Lib.hid hown5; have HO75 := Lib.hid ((Fr.of_grown (v' := .slice a6 z c6) hg5 (fun k hk => .inl hk)).own HO74.out (row_row HO74.out HO64.out (by decide))); have HB5 := Lib.hid (HB4.out.trans hb5); have hs5 := HB5.out.size; clear hown5 hg5 hb5)
            | (at_builtin; refine wpList_append1 rfl _ _ 91 rfl w.heap.size 74 (.int .u64 0) 8 Tryz.underlying91 info_blk rfl (.slice a7 z c7) z _ rfl HO75.out (.int .u64 (R : Int)) rfl rfl (by unfold maxLen; omega) (by omega) (by omega) ?_; intro g6 k6 w6 hown6 hg6 hb6; have HO76 := Lib.hid hown6; have HO66 := Lib.hid ((Fr.of_grown (v' := .slice a7 z c7) hg6 (fun k hk => .inl hk)).own HO65.out (row_row HO65.out HO75.out (by decide))); have HB6 := Lib.hid (HB5.out.trans hb6); clear hown6 hg6 hb6))
          go_roundg k
          case measure => omega
          case rel =>
            have o6 := HO66.out
            have o7 := HO76.out
            have e1 : (acc ++ [(X, R)]).length = z + 1 := by rw [List.length_append, HZ.out]; rfl
            refine ⟨i + 1, acc ++ [(X, R)], by go_num, by omega, ⟨some ⟨g5, 0, none⟩, k5, some ⟨g6, 0, none⟩, k6, by rw [e1], by rw [e1], ?_, ?_⟩, ?_, by rw [e1]; omega, HB6.out⟩
            · rw [e1, List.map_append, u64s_append]; exact o6
            · rw [e1, List.map_append, u64s_append]; exact o7
            · rw [HTK.out, if_neg H0.out, ← HAND.out]
    · obtain rfl : i = n := by omega
      have i0 : decide (i < i) = false := by rw [decide_eq_false_iff_not]; omega
      have hall : acc = nandD ps W := by
        have h := HAND.out
        rw [List.take_of_length_le (by rw [← HPN.out]; exact Nat.le_refl _)] at h
        exact h
      clear hbel
      go_wp2_with fail
      go_ret
      obtain ⟨H, hsp, hfr⟩ := acc_end HZ.out hsr HO6.out HO7.out
      exact ⟨_, H, rfl, hall ▸ hsp, hfr, HBE.out.alloc hsr _⟩
end Go.Proofs.YtjnefgmoobbniaaGreat
