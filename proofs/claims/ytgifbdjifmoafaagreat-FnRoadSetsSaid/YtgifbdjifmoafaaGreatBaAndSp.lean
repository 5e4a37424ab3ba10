/- Walk of the bitwise and of two sparse arrays. -/
import Derived.Test.YtgifbdjifmoafaaGreatBaTwo
import Derived.StillTailTactics
import Derived.Deep.QuietTactic
import Derived.BigQuiet
import Derived.IntWalk
namespace Go.Proofs.YtgifbdjifmoafaaGreat
set_option linter.unusedVariables false
open Go.RowKit Bam

def MaxRel (x y : Nat) (w : World) (k : Nat) (m i : Value) (wr : World) : Prop := wr = w ∧ ((k = 1 ∧ m = .int .i64 (x : Int) ∧ i = .int .i64 1) ∨ (k = 0 ∧ m = .int .i64 ((Nat.max x y : Nat) : Int) ∧ i = .int .i64 2))
theorem maxi_any (g x y : Nat) (w : World) (hx : w.cell? ⟨g, 0, none⟩ = some (.int .i64 (x : Int))) (hy : w.cell? ⟨g, 1, none⟩ = some (.int .i64 (y : Int))) :
    Calls Tryz.prog 135 #[.slice (some ⟨g, 0, none⟩) 2 2] w fun e w' => e = .returned (.int .i64 ((Nat.max x y : Nat) : Int)) ∧ w = w' := by
  go_enter Tryz.func135, Tryz.ntmps135
  go_wp2_with fail
  go_loopg [3, 4] 1 (fun k m i wr => MaxRel x y w k m i wr)
  case atStart => exact ⟨rfl, .inl ⟨rfl, rfl, rfl⟩⟩
  case round =>
    obtain ⟨rfl, ⟨rfl, rfl, rfl⟩ | ⟨rfl, rfl, rfl⟩⟩ := hrel
    · by_cases hxy : x < y
      · have hd : decide (x < y) = true := by rw [decide_eq_true_iff]; exact hxy
        have e : Nat.max x y = y := Nat.max_eq_right (Nat.le_of_lt hxy)
        have HE := Lib.hid e
        clear hxy e
        go_wp2_with fail
        go_roundg 0
        case measure => omega
        case rel => exact ⟨rfl, .inr ⟨rfl, by rw [HE.out], rfl⟩⟩
      · have hd : decide (x < y) = false := by rw [decide_eq_false_iff_not]; exact hxy
        have e : Nat.max x y = x := Nat.max_eq_left (by omega)
        have HE := Lib.hid e
        clear hxy e
        go_wp2_with fail
        go_roundg 0
        case measure => omega
        case rel => exact ⟨rfl, .inr ⟨rfl, by rw [HE.out], rfl⟩⟩
    · go_wp2_with fail
      go_ret
      exact ⟨rfl, rfl⟩

theorem drop_at {ps : Ps} {i : Nat} (h : i < ps.length) : ps.drop i = ps.getD i (0, 0) :: ps.drop (i + 1) := by
  rw [List.drop_eq_getElem_cons h, List.getD_eq_getElem?_getD, List.getElem?_eq_getElem h]; rfl
theorem andL_end {ps qs : Ps} {i j : Nat} (h : ps.length ≤ i ∨ qs.length ≤ j) : andL (ps.drop i) (qs.drop j) = [] := by
  rcases h with h | h
  · rw [List.drop_eq_nil_of_le h]; unfold andL; rfl
  · rw [List.drop_eq_nil_of_le h]
    cases ps.drop i <;> simp [andL]
theorem andL_cc (i a : Nat) (p : Ps) (j b : Nat) (q : Ps) : andL ((i, a) :: p) ((j, b) :: q) = if j < i then andL ((i, a) :: p) q else if i < j then andL p ((j, b) :: q) else (if a &&& b = 0 then [] else [(i, a &&& b)]) ++ andL p q := by
  conv => lhs; unfold andL
theorem andL_at {ps qs : Ps} {i j : Nat} (hi : i < ps.length) (hj : j < qs.length) {X A Y B : Nat} (h1 : ps.getD i (0, 0) = (X, A)) (h2 : qs.getD j (0, 0) = (Y, B)) :
    andL (ps.drop i) (qs.drop j) = if Y < X then andL (ps.drop i) (qs.drop (j + 1)) else if X < Y then andL (ps.drop (i + 1)) (qs.drop j) else (if A &&& B = 0 then [] else [(X, A &&& B)]) ++ andL (ps.drop (i + 1)) (qs.drop (j + 1)) := by
  have e := andL_cc X A (ps.drop (i + 1)) Y B (qs.drop (j + 1))
  rw [← h1, ← h2, ← drop_at hi, ← drop_at hj] at e
  rw [h1, h2] at *
  exact e

/-- the pairs gathered so far, in two rows of the call's own -/
def AccAt (w : World) (B : Nat) (s6 s7 : Value) (acc : Ps) : Prop :=
  ∃ (a6 : Option Addr) (c6 : Nat) (a7 : Option Addr) (c7 : Nat), s6 = .slice a6 acc.length c6 ∧ s7 = .slice a7 acc.length c7 ∧ w.ownsRow B 25 1 (.slice a6 acc.length c6) acc.length (u64s (acc.map Prod.fst)) ∧ w.ownsRow B 87 1 (.slice a7 acc.length c7) acc.length (u64s (acc.map Prod.snd))
theorem AccAt.below {w w' : World} {B : Nat} {s6 s7 : Value} {acc : Ps} (h : AccAt w B s6 s7 acc) (hb : Below w.heap.size w w') : AccAt w' B s6 s7 acc := by
  obtain ⟨a6, c6, a7, c7, h1, h2, h3, h4⟩ := h
  exact ⟨a6, c6, a7, c7, h1, h2, own_below h3 hb, own_below h4 hb⟩

/-- the pairs in memory -/
def PairsAt (w : World) (p : Nat) (ps : Ps) (a1 : Option Addr) (c1 : Nat) (a2 : Option Addr) (c2 n : Nat) : Prop :=
  n = ps.length ∧ w.cell? ⟨p, 0, none⟩ = some (.slice a1 n c1) ∧ w.cell? ⟨p, 1, none⟩ = some (.slice a2 n c2) ∧ (∀ r, r < n → ∃ g1 g2, a1 = some ⟨g1, 0, none⟩ ∧ a2 = some ⟨g2, 0, none⟩ ∧ w.cell? ⟨g1, r, none⟩ = some (.int .u64 (((ps.getD r (0, 0)).2 : Nat) : Int)) ∧ w.cell? ⟨g2, r, none⟩ = some (.int .u64 (((ps.getD r (0, 0)).1 : Nat) : Int)))
theorem SpAt.pairs {w : World} {p : Nat} {F : List Nat} {ps : Ps} (h : SpAt w p F ps) : ∃ a1 c1 a2 c2 n, PairsAt w p ps a1 c1 a2 c2 n := by
  obtain ⟨a1, c1, a2, c2, h0, h1, hc, -, -⟩ := h.cells
  refine ⟨a1, c1, a2, c2, ps.length, rfl, h0, h1, fun r hr => ?_⟩
  obtain ⟨g1, g2, e1, e2, h⟩ := hc (by omega)
  exact ⟨g1, g2, e1, e2, (h r hr).1, (h r hr).2⟩
theorem cell_below {w w' : World} {B : Nat} {a : Addr} {v : Value} (hb : Below B w w') (hB : w.heap.size ≤ B) (h : w.cell? a = some v) : w'.cell? a = some v :=
  (hb.cell (Nat.lt_of_lt_of_le (World.block_lt_of_cell? w _ h) hB)).trans h
theorem PairsAt.below {w w' : World} {p : Nat} {ps : Ps} {a1 a2 : Option Addr} {c1 c2 n : Nat} (h : PairsAt w p ps a1 c1 a2 c2 n) (hb : Below w.heap.size w w') : PairsAt w' p ps a1 c1 a2 c2 n := by
  obtain ⟨h0, h1, h2, h3⟩ := h
  refine ⟨h0, cell_below hb (Nat.le_refl _) h1, cell_below hb (Nat.le_refl _) h2, fun r hr => ?_⟩
  obtain ⟨g1, g2, e1, e2, k1, k2⟩ := h3 r hr
  exact ⟨g1, g2, e1, e2, cell_below hb (Nat.le_refl _) k1, cell_below hb (Nat.le_refl _) k2⟩

theorem acc_end {w : World} {B z : Nat} {a6 a7 : Option Addr} {c6 c7 : Nat} {acc : Ps} (hz : acc.length = z) (hB : B ≤ w.heap.size) (o6 : w.ownsRow B 25 1 (.slice a6 z c6) z (u64s (acc.map Prod.fst))) (o7 : w.ownsRow B 87 1 (.slice a7 z c7) z (u64s (acc.map Prod.snd))) :
    ∃ H, SpAt (w.alloc (.cells #[.slice a7 z c7, .slice a6 z c6] 111)) w.heap.size H acc ∧ ∀ x ∈ H, B ≤ x := by
  subst hz
  refine ⟨_, ⟨a7, c7, a6, c6, Blk.new _ _ _, Ue.of (o7.alloc _), Us.of (o6.alloc _), rfl⟩, fun x hx => ?_⟩
  rcases List.mem_cons.1 hx with e | e
  · omega
  · rcases List.mem_append.1 e with e | e
    · exact (own_lt o7 x e).2
    · exact (own_lt o6 x e).2
def AndRel (ps qs : Ps) (w : World) (k : Nat) (s6 s7 s8 s9 : Value) (wr : World) : Prop :=
  ∃ (i j : Nat) (acc : Ps), s8 = .int .i64 (i : Int) ∧ s9 = .int .i64 (j : Int) ∧ i ≤ ps.length ∧ j ≤ qs.length ∧ (ps.length - i) + (qs.length - j) ≤ k ∧ AccAt wr w.heap.size s6 s7 acc ∧ acc ++ andL (ps.drop i) (qs.drop j) = andL ps qs ∧ acc.length ≤ i ∧ Below w.heap.size w wr

set_option maxRecDepth 100000 in
set_option maxHeartbeats 4000000 in
theorem andsp_any (p q : Nat) (F G : List Nat) (ps qs : Ps) (w : World) (h : SpAt w p F ps) (k : SpAt w q G qs) (ho1 : Ok ps) (ho2 : Ok qs) (hn : ps.length ≤ 1000) (hm : qs.length ≤ 1000) :
    Calls Tryz.prog 124 #[.pointer (some ⟨p, 0, none⟩), .pointer (some ⟨q, 0, none⟩)] w fun e w' =>
      ∃ (r : Nat) (H : List Nat), e = .returned (.iface 99 (.pointer (some ⟨r, 0, none⟩))) ∧ SpAt w' r H (andL ps qs) ∧ (∀ x ∈ H, w.heap.size ≤ x) ∧ Below w.heap.size w w' := by
  obtain ⟨a1, c1, a2, c2, n, hp⟩ := h.pairs
  obtain ⟨b1, d1, b2, d2, m, hq⟩ := k.pairs
  have HP := Lib.hid hp
  have HQ := Lib.hid hq
  have HO1 := Lib.hid ho1
  have HO2 := Lib.hid ho2
  obtain ⟨hpn, p0, p1, -⟩ := hp
  obtain ⟨hqn, q0, q1, -⟩ := hq
  have HPN := Lib.hid hpn
  have HQN := Lib.hid hqn
  rw [← hpn] at hn
  rw [← hqn] at hm
  clear hpn hqn h k ho1 ho2
  go_enter Tryz.func124, Tryz.ntmps124
  go_wp2_with fail
  go_still_tail 10, (by kernel_rfl)
  go_wp2_with fail
  have hb0 : Below w.heap.size w (w.alloc (.cells #[.int .i64 (n : Int), .int .i64 (m : Int)] 2)).drew := ((Below.refl _ _).alloc (Nat.le_refl _) _).drew
  have hx0 : (w.alloc (.cells #[.int .i64 (n : Int), .int .i64 (m : Int)] 2)).drew.cell? ⟨w.heap.size, 0, none⟩ = some (.int .i64 (n : Int)) := (Blk.new w _ _).cell 0 rfl
  have hx1 : (w.alloc (.cells #[.int .i64 (n : Int), .int .i64 (m : Int)] 2)).drew.cell? ⟨w.heap.size, 1, none⟩ = some (.int .i64 (m : Int)) := (Blk.new w _ _).cell 1 rfl
  obtain ⟨w0, hw0⟩ : ∃ w0, (w.alloc (.cells #[.int .i64 (n : Int), .int .i64 (m : Int)] 2)).drew = w0 := ⟨_, rfl⟩
  rw [hw0] at hb0 hx0 hx1 ⊢
  refine (maxi_any w.heap.size n m w0 hx0 hx1).mono ?_
  have HB0 := Lib.hid hb0
  have hs0 := hb0.size
  clear hb0 hx0 hx1 hw0 p0 p1 q0 q1
  rintro e w' ⟨rfl, rfl⟩
  obtain ⟨M, hM⟩ : ∃ M, Nat.max n m = M := ⟨_, rfl⟩
  rw [hM]
  have hM1 : M ≤ 1000 := by rw [← hM]; exact Nat.max_le.2 ⟨hn, hm⟩
  clear hM
  go_wp2_with (first
    | (at_make; refine wpList_make2 rfl _ _ 109 rfl w.heap.size 25 (.int .u64 0) 8 Tryz.underlying109 info_u64 rfl _ _ _ _ 0 M rfl rfl rfl rfl (Nat.zero_le _) (by omega) (by unfold maxLen; omega) hs0 ?_; intro w1 hown1 hb1 hs1; have HOW1 := Lib.hid hown1; have HB1 := Lib.hid (HB0.out.trans (hb1.mono hs0)); have hs1' := HB1.out.size; clear hown1 hb1 hs1)
    | (at_make; refine wpList_make2 rfl _ _ 108 rfl w.heap.size 87 (.int .u64 0) 8 Tryz.underlying108 info_blk rfl _ _ _ _ 0 M rfl rfl rfl rfl (Nat.zero_le _) (by omega) (by unfold maxLen; omega) hs1' ?_; intro w2 hown2 hb2 hs2; have HOW2 := Lib.hid hown2; have HO12 := Lib.hid (own_below HOW1.out hb2); have HB2 := Lib.hid (HB1.out.trans (hb2.mono hs1')); clear hown2 hb2 hs2))
  have hs2 := HB2.out.size
  go_loopg [6, 7, 8, 9] (n + m) (fun k s6 s7 s8 s9 wr => AndRel ps qs w k s6 s7 s8 s9 wr)
  case atStart => exact ⟨0, 0, [], rfl, rfl, Nat.zero_le _, Nat.zero_le _, by have := HPN.out; have := HQN.out; omega, ⟨_, _, _, _, rfl, rfl, HO12.out, HOW2.out⟩, rfl, Nat.le_refl _, HB2.out⟩
  case round =>
    obtain ⟨i, j, acc, rfl, rfl, hi, hj, hk, hacc, hand, hal, hbel⟩ := hrel
    rw [← HPN.out] at hi hk
    rw [← HQN.out] at hj hk
    obtain ⟨a6, c6, a7, c7, rfl, rfl, o6, o7⟩ := hacc
    obtain ⟨z, hz⟩ : ∃ z, acc.length = z := ⟨_, rfl⟩
    rw [hz] at o6 o7 hal ⊢
    have HZ := Lib.hid hz
    have HO6 := Lib.hid o6
    have HO7 := Lib.hid o7
    have HAND := Lib.hid hand
    have HBE := Lib.hid hbel
    have hsr := hbel.size
    have hpr := HP.out
    have hqr := HQ.out
    obtain ⟨-, p0, p1, pc⟩ := hpr
    obtain ⟨-, q0, q1, qc⟩ := hqr
    replace p0 := cell_below hbel (Nat.le_refl _) p0
    replace p1 := cell_below hbel (Nat.le_refl _) p1
    replace q0 := cell_below hbel (Nat.le_refl _) q0
    replace q1 := cell_below hbel (Nat.le_refl _) q1
    clear hz o6 o7 hand
    by_cases hin : i = n
    · have t0 : ((i : Int) == (n : Int)) = true := by rw [hin]; exact beq_self_eq_true _
      have hall : acc = andL ps qs := by rw [← HAND.out, andL_end (.inl (by rw [← HPN.out]; omega)), List.append_nil]
      clear pc qc hbel hin
      go_wp2_with fail
      go_ret
      obtain ⟨H, hsp, hfr⟩ := acc_end HZ.out hsr HO6.out HO7.out
      exact ⟨_, H, rfl, hall ▸ hsp, hfr, HBE.out.alloc hsr _⟩
    · have t0 : ((i : Int) == (n : Int)) = false := by rw [beq_eq_false_iff_ne]; omega
      by_cases hjm : j = m
      · have t1 : ((j : Int) == (m : Int)) = true := by rw [hjm]; exact beq_self_eq_true _
        have hall : acc = andL ps qs := by rw [← HAND.out, andL_end (.inr (by rw [← HQN.out]; omega)), List.append_nil]
        clear pc qc hbel hin hjm
        go_wp2_with fail
        go_ret
        obtain ⟨H, hsp, hfr⟩ := acc_end HZ.out hsr HO6.out HO7.out
        exact ⟨_, H, rfl, hall ▸ hsp, hfr, HBE.out.alloc hsr _⟩
      · have t1 : ((j : Int) == (m : Int)) = false := by rw [beq_eq_false_iff_ne]; omega
        have hil : i < n := by omega
        have hjl : j < m := by omega
        obtain ⟨g1, g2, rfl, rfl, u1, u2⟩ := pc i hil
        obtain ⟨g3, g4, rfl, rfl, v1, v2⟩ := qc j hjl
        replace u1 := cell_below hbel (Nat.le_refl _) u1
        replace u2 := cell_below hbel (Nat.le_refl _) u2
        replace v1 := cell_below hbel (Nat.le_refl _) v1
        replace v2 := cell_below hbel (Nat.le_refl _) v2
        have hlk := andL_at (ps := ps) (qs := qs) (i := i) (j := j) (by rw [← HPN.out]; exact hil) (by rw [← HQN.out]; exact hjl) (X := (ps.getD i (0, 0)).1) (A := (ps.getD i (0, 0)).2) (Y := (qs.getD j (0, 0)).1) (B := (qs.getD j (0, 0)).2) rfl rfl
        have hA : (ps.getD i (0, 0)).2 < 18446744073709551616 := HO1.out.2 (ps.getD i (0, 0)) (by rw [List.getD_eq_getElem?_getD, List.getElem?_eq_getElem (by rw [← HPN.out]; exact hil)]; exact List.getElem_mem _)
        have hB : (qs.getD j (0, 0)).2 < 18446744073709551616 := HO2.out.2 (qs.getD j (0, 0)) (by rw [List.getD_eq_getElem?_getD, List.getElem?_eq_getElem (by rw [← HQN.out]; exact hjl)]; exact List.getElem_mem _)
        obtain ⟨X, hX⟩ : ∃ X, (ps.getD i (0, 0)).1 = X := ⟨_, rfl⟩
        obtain ⟨A, hA2⟩ : ∃ A, (ps.getD i (0, 0)).2 = A := ⟨_, rfl⟩
        obtain ⟨Y, hY⟩ : ∃ Y, (qs.getD j (0, 0)).1 = Y := ⟨_, rfl⟩
        obtain ⟨B, hB2⟩ : ∃ B, (qs.getD j (0, 0)).2 = B := ⟨_, rfl⟩
        rw [hX, hA2, hY, hB2] at hlk
        rw [hX] at u2
        rw [hA2] at u1 hA
        rw [hY] at v2
        rw [hB2] at v1 hB
        have i1 : (i : Int) < (n : Int) := by omega
        have i2 : (0 : Int) ≤ (i : Int) := by omega
        have j1 : (j : Int) < (m : Int) := by omega
        have j2 : (0 : Int) ≤ (j : Int) := by omega
        have HLK := Lib.hid hlk
        have HIN := Lib.hid hin
        have HJM := Lib.hid hjm
        clear pc qc hX hA2 hY hB2 hlk hbel hin hjm
        cases gk with
        | zero => omega
        | succ k =>
          by_cases hYX : Y < X
          · have t2 : decide (Y < X) = true := by rw [decide_eq_true_iff]; exact hYX
            have he := HLK.out
            rw [if_pos hYX] at he
            have HE := Lib.hid he
            clear he hYX
            go_wp2_with fail
            go_roundg k
            case measure => omega
            case rel => exact ⟨i, j + 1, acc, rfl, by go_num, by rw [← HPN.out]; exact hi, by rw [← HQN.out]; omega, by rw [← HPN.out, ← HQN.out]; omega, by rw [← HZ.out]; exact ⟨_, _, _, _, rfl, rfl, HZ.out ▸ HO6.out, HZ.out ▸ HO7.out⟩, by rw [← HE.out]; exact HAND.out, by rw [HZ.out]; exact hal, HBE.out⟩
          · have t2 : decide (Y < X) = false := by rw [decide_eq_false_iff_not]; exact hYX
            by_cases hXY : X < Y
            · have t3 : decide (X < Y) = true := by rw [decide_eq_true_iff]; exact hXY
              have he := HLK.out
              rw [if_neg hYX, if_pos hXY] at he
              have HE := Lib.hid he
              clear he hYX hXY
              go_wp2_with fail
              go_roundg k
              case measure => omega
              case rel => exact ⟨i + 1, j, acc, by go_num, rfl, by rw [← HPN.out]; omega, by rw [← HQN.out]; exact hj, by rw [← HPN.out, ← HQN.out]; omega, by rw [← HZ.out]; exact ⟨_, _, _, _, rfl, rfl, HZ.out ▸ HO6.out, HZ.out ▸ HO7.out⟩, by rw [← HE.out]; exact HAND.out, by rw [HZ.out]; omega, HBE.out⟩
            · have t3 : decide (X < Y) = false := by rw [decide_eq_false_iff_not]; exact hXY
              have he := HLK.out
              rw [if_neg hYX, if_neg hXY] at he
              obtain ⟨R, hR⟩ : ∃ R, A &&& B = R := ⟨_, rfl⟩
              rw [hR] at he
              have HE := Lib.hid he
              have hand : ∀ w', Calls Tryz.prog 98 #[.int .u64 (A : Int), .int .u64 (B : Int)] w' fun e w'' => e = .returned (.int .u64 (R : Int)) ∧ w'' = w' := fun w' => hR ▸ (band_any A B hA hB w').mono fun _ _ h => ⟨h.1, h.2.symm⟩
              have HBA := Lib.hid hand
              clear he hYX hXY hR hand hA hB
              have hzl : z ≤ 1000 := by omega
              by_cases h0 : R = 0
              · have t4 : decide (0 < R) = false := by rw [decide_eq_false_iff_not]; omega
                have H0 := Lib.hid h0
                clear h0
                go_wp2_with fail
                go_quiet ((go_at_call 98; exact Calls.quiet_of_same (HBA.out _)))
                go_wp2_with fail
                go_roundg k
                case measure => omega
                case rel =>
                  have he := HE.out
                  rw [if_pos H0.out, List.nil_append] at he
                  exact ⟨i + 1, j + 1, acc, by go_num, by go_num, by rw [← HPN.out]; omega, by rw [← HQN.out]; omega, by rw [← HPN.out, ← HQN.out]; omega, by rw [← HZ.out]; exact AccAt.below ⟨_, _, _, _, rfl, rfl, HZ.out ▸ HO6.out, HZ.out ▸ HO7.out⟩ (below_drewN (Below.refl _ _) _), by rw [← he]; exact HAND.out, by rw [HZ.out]; omega, below_drewN HBE.out _⟩
              · have t4 : decide (0 < R) = true := by rw [decide_eq_true_iff]; omega
                have H0 := Lib.hid h0
                clear h0
                go_wp2_with fail
                go_quiet ((go_at_call 98; exact Calls.quiet_of_same (HBA.out _)))
                obtain ⟨w4, hw4⟩ : ∃ w4, wr.drewN nq = w4 := ⟨_, rfl⟩
                have o6 : w4.ownsRow w.heap.size 25 1 (.slice a6 z c6) z (u64s (acc.map Prod.fst)) := hw4 ▸ HO6.out
                have o7 : w4.ownsRow w.heap.size 87 1 (.slice a7 z c7) z (u64s (acc.map Prod.snd)) := hw4 ▸ HO7.out
                have hb4 : Below w.heap.size w w4 := hw4 ▸ below_drewN HBE.out nq
                have hs4 := hb4.size
                rw [hw4]
                have HO64 := Lib.hid o6
                have HO74 := Lib.hid o7
                have HB4 := Lib.hid hb4
                clear o6 o7 hb4 hw4 u1 u2 v1 v2 p0 p1 q0 q1
                go_wp2_with (first
                  | (at_builtin; refine wpList_append1 rfl _ _ 109 rfl w.heap.size 25 (.int .u64 0) 8 Tryz.underlying109 info_u64 rfl (.slice a6 z c6) z _ rfl HO64.out (.int .u64 (X : Int)) rfl rfl (by unfold maxLen; omega) (by omega) (by omega) ?_; intro g5 k5 w5 hown5 hg5 hb5; have HO65 := Lib.hid hown5; have HO75 := Lib.hid ((Fr.of_grown (v' := .slice a6 z c6) hg5 (fun k hk => .inl hk)).own HO74.out (row_row HO74.out HO64.out (by decide))); have HB5 := Lib.hid (HB4.out.trans hb5); have hs5 := HB5.out.size; clear hown5 hg5 hb5)
                  | (at_builtin; refine wpList_append1 rfl _ _ 108 rfl w.heap.size 87 (.int .u64 0) 8 Tryz.underlying108 info_blk rfl (.slice a7 z c7) z _ rfl HO75.out (.int .u64 (R : Int)) rfl rfl (by unfold maxLen; omega) (by omega) (by omega) ?_; intro g6 k6 w6 hown6 hg6 hb6; have HO76 := Lib.hid hown6; have HO66 := Lib.hid ((Fr.of_grown (v' := .slice a7 z c7) hg6 (fun k hk => .inl hk)).own HO65.out (row_row HO65.out HO75.out (by decide))); have HB6 := Lib.hid (HB5.out.trans hb6); clear hown6 hg6 hb6))
                go_roundg k
                case measure => omega
                case rel =>
                  have he := HE.out
                  rw [if_neg H0.out] at he
                  have o6 := HO66.out
                  have o7 := HO76.out
                  have e1 : (acc ++ [(X, R)]).length = z + 1 := by rw [List.length_append, HZ.out]; rfl
                  refine ⟨i + 1, j + 1, acc ++ [(X, R)], by go_num, by go_num, by rw [← HPN.out]; omega, by rw [← HQN.out]; omega, by rw [← HPN.out, ← HQN.out]; omega, ⟨some ⟨g5, 0, none⟩, k5, some ⟨g6, 0, none⟩, k6, by rw [e1], by rw [e1], ?_, ?_⟩, ?_, by rw [e1]; omega, HB6.out⟩
                  · rw [e1, List.map_append, u64s_append]; exact o6
                  · rw [e1, List.map_append, u64s_append]; exact o7
                  · rw [List.append_assoc, ← he]; exact HAND.out
end Go.Proofs.YtgifbdjifmoafaaGreat
