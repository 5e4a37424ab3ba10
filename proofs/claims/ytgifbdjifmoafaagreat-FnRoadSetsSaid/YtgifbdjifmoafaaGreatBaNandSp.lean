/- Walk of nand of two sparse arrays (printed by gen_ba_nandsp.py). -/
import Derived.Test.YtgifbdjifmoafaaGreatBaAndSp
namespace Go.Proofs.YtgifbdjifmoafaaGreat
set_option linter.unusedVariables false
open Go.RowKit Bam

theorem nandL_nilr (p : Ps) : nandL p [] = p := by
  cases p with
  | nil => unfold nandL; rfl
  | cons x p => unfold nandL; rfl
theorem nandL_cc (i a : Nat) (p : Ps) (j b : Nat) (q : Ps) : nandL ((i, a) :: p) ((j, b) :: q) = if j < i then nandL ((i, a) :: p) q else if i < j then (i, a) :: nandL p ((j, b) :: q) else (if a ^^^ (a &&& b) = 0 then [] else [(i, a ^^^ (a &&& b))]) ++ nandL p q := by
  conv => lhs; unfold nandL
theorem nandL_at {ps qs : Ps} {i j : Nat} (hi : i < ps.length) (hj : j < qs.length) {X A Y B : Nat} (h1 : ps.getD i (0, 0) = (X, A)) (h2 : qs.getD j (0, 0) = (Y, B)) :
    nandL (ps.drop i) (qs.drop j) = if Y < X then nandL (ps.drop i) (qs.drop (j + 1)) else if X < Y then (X, A) :: nandL (ps.drop (i + 1)) (qs.drop j) else (if A ^^^ (A &&& B) = 0 then [] else [(X, A ^^^ (A &&& B))]) ++ nandL (ps.drop (i + 1)) (qs.drop (j + 1)) := by
  have e := nandL_cc X A (ps.drop (i + 1)) Y B (qs.drop (j + 1))
  rw [← h1, ← h2, ← drop_at hi, ← drop_at hj] at e
  rw [h1, h2] at *
  exact e
theorem nandL_end {ps qs : Ps} {i j : Nat} (hi : i < ps.length) (hj : qs.length ≤ j) : nandL (ps.drop i) (qs.drop j) = ps.getD i (0, 0) :: nandL (ps.drop (i + 1)) (qs.drop j) := by
  rw [List.drop_eq_nil_of_le hj, nandL_nilr, nandL_nilr, drop_at hi]
def NandRel (ps qs : Ps) (w : World) (k : Nat) (s6 s7 s8 s9 : Value) (wr : World) : Prop :=
  ∃ (i j : Nat) (acc : Ps), s8 = .int .i64 (i : Int) ∧ s9 = .int .i64 (j : Int) ∧ i ≤ ps.length ∧ j ≤ qs.length ∧ (ps.length - i) + (qs.length - j) ≤ k ∧ AccAt wr w.heap.size s6 s7 acc ∧ acc ++ nandL (ps.drop i) (qs.drop j) = nandL ps qs ∧ acc.length ≤ i ∧ Below w.heap.size w wr

set_option maxRecDepth 100000 in
set_option maxHeartbeats 4000000 in
theorem nandsp_any (p q : Nat) (F G : List Nat) (ps qs : Ps) (w : World) (h : SpAt w p F ps) (k : SpAt w q G qs) (ho1 : Ok ps) (ho2 : Ok qs) (hn : ps.length ≤ 1000) (hm : qs.length ≤ 1000) :
    Calls Tryz.prog 130 #[.pointer (some ⟨p, 0, none⟩), .pointer (some ⟨q, 0, none⟩)] w fun e w' =>
      ∃ (r : Nat) (H : List Nat), e = .returned (.iface 99 (.pointer (some ⟨r, 0, none⟩))) ∧ SpAt w' r H (nandL ps qs) ∧ (∀ x ∈ H, w.heap.size ≤ x) ∧ Below w.heap.size w w' := by
  obtain ⟨a1, c1, a2, c2, n, hp⟩ := h.pairs
  obtain ⟨b1, d1, b2, d2, m, hq⟩ := k.pairs
  have HP := Lib.hid hp
  have HQ := Lib.hid hq
  have HO1 := Lib.hid ho1
  have HO2 := Lib.hid ho2
  obtain ⟨hpn, p0, p1, -⟩ := hp
  obtain ⟨hqn, q0, q1, -⟩ := hq
  have HPN := Lib.hid hpn
  have HQN := Lib.hid hqn
  rw [← hpn] at hn
  rw [← hqn] at hm
  have hself : w.heap.size ≤ w.heap.size := Nat.le_refl _
  clear hpn hqn h k ho1 ho2 p0 q0 q1
  go_enter Tryz.func130, Tryz.ntmps130
  go_wp2_with (first
    | (at_make; refine wpList_make2 rfl _ _ 109 rfl w.heap.size 25 (.int .u64 0) 8 Tryz.underlying109 info_u64 rfl _ _ _ _ 0 n rfl rfl rfl rfl (Nat.zero_le _) (by omega) (by unfold maxLen; omega) hself ?_; intro w1 hown1 hb1 hs1; have HOW1 := Lib.hid hown1; have HB1 := Lib.hid hb1; have hs1' := HB1.out.size; clear hown1 hb1 hs1 p1)
    | (at_make; refine wpList_make2 rfl _ _ 108 rfl w.heap.size 87 (.int .u64 0) 8 Tryz.underlying108 info_blk rfl _ _ _ _ 0 n rfl rfl rfl rfl (Nat.zero_le _) (by omega) (by unfold maxLen; omega) hs1' ?_; intro w2 hown2 hb2 hs2; have HOW2 := Lib.hid hown2; have HO12 := Lib.hid (own_below HOW1.out hb2); have HB2 := Lib.hid (HB1.out.trans (hb2.mono hs1')); clear hown2 hb2 hs2))
  have hs2 := HB2.out.size
  go_loopg [6, 7, 8, 9] (n + m) (fun k s6 s7 s8 s9 wr => NandRel ps qs w k s6 s7 s8 s9 wr)
  case atStart => exact ⟨0, 0, [], rfl, rfl, Nat.zero_le _, Nat.zero_le _, by have := HPN.out; have := HQN.out; omega, ⟨_, _, _, _, rfl, rfl, HO12.out, HOW2.out⟩, rfl, Nat.le_refl _, HB2.out⟩
  case round =>
    obtain ⟨i, j, acc, rfl, rfl, hi, hj, hk, hacc, hand, hal, hbel⟩ := hrel
    rw [← HPN.out] at hi hk
    rw [← HQN.out] at hj hk
    obtain ⟨a6, c6, a7, c7, rfl, rfl, o6, o7⟩ := hacc
    obtain ⟨z, hz⟩ : ∃ z, acc.length = z := ⟨_, rfl⟩
    rw [hz] at o6 o7 hal ⊢
    have HZ := Lib.hid hz
    have HO6 := Lib.hid o6
    have HO7 := Lib.hid o7
    have HAND := Lib.hid hand
    have HBE := Lib.hid hbel
    have hsr := hbel.size
    obtain ⟨-, p0, p1, pc⟩ := HP.out
    obtain ⟨-, q0, q1, qc⟩ := HQ.out
    replace p0 := cell_below hbel (Nat.le_refl _) p0
    replace p1 := cell_below hbel (Nat.le_refl _) p1
    replace q0 := cell_below hbel (Nat.le_refl _) q0
    replace q1 := cell_below hbel (Nat.le_refl _) q1
    clear hz o6 o7 hand
    by_cases hin : i = n
    · have t0 : ((i : Int) == (n : Int)) = true := by rw [hin]; exact beq_self_eq_true _
      have hall : acc = nandL ps qs := by rw [← HAND.out, List.drop_eq_nil_of_le (by rw [← HPN.out]; omega), show nandL [] (qs.drop j) = [] from by unfold nandL; rfl, List.append_nil]
      clear pc qc hbel hin
      go_wp2_with fail
      go_ret
      obtain ⟨H, hsp, hfr⟩ := acc_end HZ.out hsr HO6.out HO7.out
      exact ⟨_, H, rfl, hall ▸ hsp, hfr, HBE.out.alloc hsr _⟩
    · have t0 : ((i : Int) == (n : Int)) = false := by rw [beq_eq_false_iff_ne]; omega
      have hil : i < n := by omega
      obtain ⟨g1, g2, rfl, rfl, u1, u2⟩ := pc i hil
      replace u1 := cell_below hbel (Nat.le_refl _) u1
      replace u2 := cell_below hbel (Nat.le_refl _) u2
      have hA : (ps.getD i (0, 0)).2 < 18446744073709551616 := HO1.out.2 (ps.getD i (0, 0)) (by rw [List.getD_eq_getElem?_getD, List.getElem?_eq_getElem (by rw [← HPN.out]; exact hil)]; exact List.getElem_mem _)
      have i1 : (i : Int) < (n : Int) := by omega
      have i2 : (0 : Int) ≤ (i : Int) := by omega
      have hzl : z ≤ 1000 := by omega
      have HIN := Lib.hid hin
      by_cases hjm : j = m
      · have t1 : ((j : Int) == (m : Int)) = true := by rw [hjm]; exact beq_self_eq_true _
        have he := nandL_end (ps := ps) (qs := qs) (i := i) (j := j) (by rw [← HPN.out]; exact hil) (by rw [← HQN.out]; omega)
        obtain ⟨X, hX⟩ : ∃ X, (ps.getD i (0, 0)).1 = X := ⟨_, rfl⟩
        obtain ⟨R, hR⟩ : ∃ A, (ps.getD i (0, 0)).2 = A := ⟨_, rfl⟩
        rw [show ps.getD i (0, 0) = (X, R) by rw [← hX, ← hR]] at he
        rw [hX] at u2
        rw [hR] at u1 hA
        have HE : Hid (nandL (ps.drop i) (qs.drop j) = [(X, R)] ++ nandL (ps.drop (i + 1)) (qs.drop j)) := Lib.hid he
        have HO64 := HO6
        have HO74 := HO7
        have HB4 := HBE
        have hs4 := hsr
        have HUR := Lib.hid hR
        clear pc qc hbel hin hjm he hX hR
        cases gk with
        | zero => have := HIN.out; omega
        | succ k =>
          go_wp2_with (first
            | (at_builtin; refine wpList_append1 rfl _ _ 109 rfl w.heap.size 25 (.int .u64 0) 8 Tryz.underlying109 info_u64 rfl (.slice a6 z c6) z _ rfl HO64.out (.int .u64 (X : Int)) rfl rfl (by unfold maxLen; omega) (by omega) (by omega) ?_; intro g5 k5 w5 hown5 hg5 hb5; have HO65 := Lib.hid hown5; have HO75 := Lib.hid ((Fr.of_grown (v' := .slice a6 z c6) hg5 (fun k hk => .inl hk)).own HO74.out (row_row HO74.out HO64.out (by decide))); have HB5 := Lib.hid (HB4.out.trans hb5); have hs5 := HB5.out.size; obtain ⟨-, p0', p1', pc'⟩ := HP.out; have p0b := cell_below HB5.out (Nat.le_refl _) p0'; have p1b := cell_below HB5.out (Nat.le_refl _) p1'; obtain ⟨gx, gy, ex, ey, ux, uy⟩ := pc' i hil; injection ex with ex; injection ex with ex; subst ex; have u1b := cell_below HB5.out (Nat.le_refl _) ux; rw [HUR.out] at u1b; clear p0' p1' pc' ux uy ey; clear hown5 hg5 hb5)
            | (at_builtin; refine wpList_append1 rfl _ _ 108 rfl w.heap.size 87 (.int .u64 0) 8 Tryz.underlying108 info_blk rfl (.slice a7 z c7) z _ rfl HO75.out (.int .u64 (R : Int)) rfl rfl (by unfold maxLen; omega) (by omega) (by omega) ?_; intro g6 k6 w6 hown6 hg6 hb6; have HO76 := Lib.hid hown6; have HO66 := Lib.hid ((Fr.of_grown (v' := .slice a7 z c7) hg6 (fun k hk => .inl hk)).own HO65.out (row_row HO65.out HO75.out (by decide))); have HB6 := Lib.hid (HB5.out.trans hb6); clear hown6 hg6 hb6))
          go_roundg k
          case measure => omega
          case rel =>
            have he := HE.out
            have o6 := HO66.out
            have o7 := HO76.out
            have e1 : (acc ++ [(X, R)]).length = z + 1 := by rw [List.length_append, HZ.out]; rfl
            refine ⟨i + 1, j, acc ++ [(X, R)], by go_num, rfl, by rw [← HPN.out]; omega, by rw [← HQN.out]; omega, by rw [← HPN.out, ← HQN.out]; omega, ⟨some ⟨g5, 0, none⟩, k5, some ⟨g6, 0, none⟩, k6, by rw [e1], by rw [e1], ?_, ?_⟩, ?_, by rw [e1]; omega, HB6.out⟩
            · rw [e1, List.map_append, u64s_append]; exact o6
            · rw [e1, List.map_append, u64s_append]; exact o7
            · rw [List.append_assoc, ← he]; exact HAND.out
      · have t1 : ((j : Int) == (m : Int)) = false := by rw [beq_eq_false_iff_ne]; omega
        have hjl : j < m := by omega
        obtain ⟨g3, g4, rfl, rfl, v1, v2⟩ := qc j hjl
        replace v1 := cell_below hbel (Nat.le_refl _) v1
        replace v2 := cell_below hbel (Nat.le_refl _) v2
        have hlk := nandL_at (ps := ps) (qs := qs) (i := i) (j := j) (by rw [← HPN.out]; exact hil) (by rw [← HQN.out]; exact hjl) (X := (ps.getD i (0, 0)).1) (A := (ps.getD i (0, 0)).2) (Y := (qs.getD j (0, 0)).1) (B := (qs.getD j (0, 0)).2) rfl rfl
        have hB : (qs.getD j (0, 0)).2 < 18446744073709551616 := HO2.out.2 (qs.getD j (0, 0)) (by rw [List.getD_eq_getElem?_getD, List.getElem?_eq_getElem (by rw [← HQN.out]; exact hjl)]; exact List.getElem_mem _)
        obtain ⟨X, hX⟩ : ∃ X, (ps.getD i (0, 0)).1 = X := ⟨_, rfl⟩
        obtain ⟨A, hA2⟩ : ∃ A, (ps.getD i (0, 0)).2 = A := ⟨_, rfl⟩
        obtain ⟨Y, hY⟩ : ∃ Y, (qs.getD j (0, 0)).1 = Y := ⟨_, rfl⟩
        obtain ⟨B, hB2⟩ : ∃ B, (qs.getD j (0, 0)).2 = B := ⟨_, rfl⟩
        rw [hX, hA2, hY, hB2] at hlk
        rw [hX] at u2
        rw [hA2] at u1 hA
        rw [hY] at v2
        rw [hB2] at v1 hB
        have j1 : (j : Int) < (m : Int) := by omega
        have j2 : (0 : Int) ≤ (j : Int) := by omega
        have HA2 := Lib.hid hA2
        have HLK := Lib.hid hlk
        have HJM := Lib.hid hjm
        clear pc qc hX hA2 hY hB2 hlk hbel hin hjm
        cases gk with
        | zero => omega
        | succ k =>
          by_cases hYX : Y < X
          · have t2 : decide (Y < X) = true := by rw [decide_eq_true_iff]; exact hYX
            have he := HLK.out
            rw [if_pos hYX] at he
            have HE := Lib.hid he
            clear he hYX
            go_wp2_with fail
            go_roundg k
            case measure => omega
            case rel => exact ⟨i, j + 1, acc, rfl, by go_num, by rw [← HPN.out]; exact hi, by rw [← HQN.out]; omega, by rw [← HPN.out, ← HQN.out]; omega, by rw [← HZ.out]; exact ⟨_, _, _, _, rfl, rfl, HZ.out ▸ HO6.out, HZ.out ▸ HO7.out⟩, by rw [← HE.out]; exact HAND.out, by rw [HZ.out]; exact hal, HBE.out⟩
          · have t2 : decide (Y < X) = false := by rw [decide_eq_false_iff_not]; exact hYX
            by_cases hXY : X < Y
            · have t3 : decide (X < Y) = true := by rw [decide_eq_true_iff]; exact hXY
              have he := HLK.out
              rw [if_neg hYX, if_pos hXY] at he
              obtain ⟨R, hR⟩ : ∃ R, A = R := ⟨_, rfl⟩
              have HUR : Hid ((ps.getD i (0, 0)).2 = R) := Lib.hid (HA2.out.trans hR)
              rw [hR] at he u1
              have HE : Hid (nandL (ps.drop i) (qs.drop j) = [(X, R)] ++ nandL (ps.drop (i + 1)) (qs.drop j)) := Lib.hid he
              have HO64 := HO6
              have HO74 := HO7
              have HB4 := HBE
              have hs4 := hsr
              clear he hYX hXY hR
              go_wp2_with (first
                | (at_builtin; refine wpList_append1 rfl _ _ 109 rfl w.heap.size 25 (.int .u64 0) 8 Tryz.underlying109 info_u64 rfl (.slice a6 z c6) z _ rfl HO64.out (.int .u64 (X : Int)) rfl rfl (by unfold maxLen; omega) (by omega) (by omega) ?_; intro g5 k5 w5 hown5 hg5 hb5; have HO65 := Lib.hid hown5; have HO75 := Lib.hid ((Fr.of_grown (v' := .slice a6 z c6) hg5 (fun k hk => .inl hk)).own HO74.out (row_row HO74.out HO64.out (by decide))); have HB5 := Lib.hid (HB4.out.trans hb5); have hs5 := HB5.out.size; obtain ⟨-, p0', p1', pc'⟩ := HP.out; have p0b := cell_below HB5.out (Nat.le_refl _) p0'; have p1b := cell_below HB5.out (Nat.le_refl _) p1'; obtain ⟨gx, gy, ex, ey, ux, uy⟩ := pc' i hil; injection ex with ex; injection ex with ex; subst ex; have u1b := cell_below HB5.out (Nat.le_refl _) ux; rw [HUR.out] at u1b; clear p0' p1' pc' ux uy ey; clear hown5 hg5 hb5)
                | (at_builtin; refine wpList_append1 rfl _ _ 108 rfl w.heap.size 87 (.int .u64 0) 8 Tryz.underlying108 info_blk rfl (.slice a7 z c7) z _ rfl HO75.out (.int .u64 (R : Int)) rfl rfl (by unfold maxLen; omega) (by omega) (by omega) ?_; intro g6 k6 w6 hown6 hg6 hb6; have HO76 := Lib.hid hown6; have HO66 := Lib.hid ((Fr.of_grown (v' := .slice a7 z c7) hg6 (fun k hk => .inl hk)).own HO65.out (row_row HO65.out HO75.out (by decide))); have HB6 := Lib.hid (HB5.out.trans hb6); clear hown6 hg6 hb6))
              go_roundg k
              case measure => omega
              case rel =>
                have he := HE.out
                have o6 := HO66.out
                have o7 := HO76.out
                have e1 : (acc ++ [(X, R)]).length = z + 1 := by rw [List.length_append, HZ.out]; rfl
                refine ⟨i + 1, j, acc ++ [(X, R)], by go_num, rfl, by rw [← HPN.out]; omega, by rw [← HQN.out]; omega, by rw [← HPN.out, ← HQN.out]; omega, ⟨some ⟨g5, 0, none⟩, k5, some ⟨g6, 0, none⟩, k6, by rw [e1], by rw [e1], ?_, ?_⟩, ?_, by rw [e1]; omega, HB6.out⟩
                · rw [e1, List.map_append, u64s_append]; exact o6
                · rw [e1, List.map_append, u64s_append]; exact o7
                · rw [List.append_assoc, ← he]; exact HAND.out
            · have t3 : decide (X < Y) = false := by rw [decide_eq_false_iff_not]; exact hXY
              have he := HLK.out
              rw [if_neg hYX, if_neg hXY] at he
              obtain ⟨R, hR⟩ : ∃ R, A ^^^ (A &&& B) = R := ⟨_, rfl⟩
              rw [hR] at he
              have hnd : ∀ w', Calls Tryz.prog 105 #[.int .u64 (A : Int), .int .u64 (B : Int)] w' fun e w'' => e = .returned (.int .u64 (R : Int)) ∧ w'' = w' := fun w' => hR ▸ (bnand_any A B hA hB w').mono fun _ _ h => ⟨h.1, h.2.symm⟩
              have HBA := Lib.hid hnd
              by_cases h0 : R = 0
              · have t4 : decide (0 < R) = false := by rw [decide_eq_false_iff_not]; omega
                rw [if_pos h0, List.nil_append] at he
                have HE := Lib.hid he
                clear h0 he hYX hXY hR hnd hA hB
                go_wp2_with fail
                go_quiet ((go_at_call 105; exact Calls.quiet_of_same (HBA.out _)))
                go_wp2_with fail
                go_roundg k
                case measure => omega
                case rel => exact ⟨i + 1, j + 1, acc, by go_num, by go_num, by rw [← HPN.out]; omega, by rw [← HQN.out]; omega, by rw [← HPN.out, ← HQN.out]; omega, by rw [← HZ.out]; exact AccAt.below ⟨_, _, _, _, rfl, rfl, HZ.out ▸ HO6.out, HZ.out ▸ HO7.out⟩ (below_drewN (Below.refl _ _) _), by rw [← HE.out]; exact HAND.out, by rw [HZ.out]; omega, below_drewN HBE.out _⟩
              · have t4 : decide (0 < R) = true := by rw [decide_eq_true_iff]; omega
                rw [if_neg h0] at he
                have HE := Lib.hid he
                clear h0 he hYX hXY hR hnd hA hB
                go_wp2_with fail
                go_quiet ((go_at_call 105; exact Calls.quiet_of_same (HBA.out _)))
                obtain ⟨w4, hw4⟩ : ∃ w4, wr.drewN nq = w4 := ⟨_, rfl⟩
                have o6 : w4.ownsRow w.heap.size 25 1 (.slice a6 z c6) z (u64s (acc.map Prod.fst)) := hw4 ▸ HO6.out
                have o7 : w4.ownsRow w.heap.size 87 1 (.slice a7 z c7) z (u64s (acc.map Prod.snd)) := hw4 ▸ HO7.out
                have hb4 : Below w.heap.size w w4 := hw4 ▸ below_drewN HBE.out nq
                have hs4 := hb4.size
                rw [hw4]
                have HO64 := Lib.hid o6
                have HO74 := Lib.hid o7
                have HB4 := Lib.hid hb4
                clear o6 o7 hb4 hw4 u1 u2 v1 v2 p0 p1 q0 q1
                go_wp2_with (first
                  | (at_builtin; refine wpList_append1 rfl _ _ 109 rfl w.heap.size 25 (.int .u64 0) 8 Tryz.underlying109 info_u64 rfl (.slice a6 z c6) z _ rfl HO64.out (.int .u64 (X : Int)) rfl rfl (by unfold maxLen; omega) (by omega) (by omega) ?_; intro g5 k5 w5 hown5 hg5 hb5; have HO65 := Lib.hid hown5; have HO75 := Lib.hid ((Fr.of_grown (v' := .slice a6 z c6) hg5 (fun k hk => .inl hk)).own HO74.out (row_row HO74.out HO64.out (by decide))); have HB5 := Lib.hid (HB4.out.trans hb5); have hs5 := HB5.out.size; clear hown5 hg5 hb5)
                  | (at_builtin; refine wpList_append1 rfl _ _ 108 rfl w.heap.size 87 (.int .u64 0) 8 Tryz.underlying108 info_blk rfl (.slice a7 z c7) z _ rfl HO75.out (.int .u64 (R : Int)) rfl rfl (by unfold maxLen; omega) (by omega) (by omega) ?_; intro g6 k6 w6 hown6 hg6 hb6; have HO76 := Lib.hid hown6; have HO66 := Lib.hid ((Fr.of_grown (v' := .slice a7 z c7) hg6 (fun k hk => .inl hk)).own HO65.out (row_row HO65.out HO75.out (by decide))); have HB6 := Lib.hid (HB5.out.trans hb6); clear hown6 hg6 hb6))
                go_roundg k
                case measure => omega
                case rel =>
                  have he := HE.out
                  have o6 := HO66.out
                  have o7 := HO76.out
                  have e1 : (acc ++ [(X, R)]).length = z + 1 := by rw [List.length_append, HZ.out]; rfl
                  refine ⟨i + 1, j + 1, acc ++ [(X, R)], by go_num, by go_num, by rw [← HPN.out]; omega, by rw [← HQN.out]; omega, by rw [← HPN.out, ← HQN.out]; omega, ⟨some ⟨g5, 0, none⟩, k5, some ⟨g6, 0, none⟩, k6, by rw [e1], by rw [e1], ?_, ?_⟩, ?_, by rw [e1]; omega, HB6.out⟩
                  · rw [e1, List.map_append, u64s_append]; exact o6
                  · rw [e1, List.map_append, u64s_append]; exact o7
                  · rw [List.append_assoc, ← he]; exact HAND.out
end Go.Proofs.YtgifbdjifmoafaaGreat
