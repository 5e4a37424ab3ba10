/- Walk of the bitwise or of two sparse arrays (printed by gen_ba_orsp.py). -/
import Derived.Test.YtgifbdjifmoafaaGreatBaNandSp
import Derived.Test.YtgifbdjifmoafaaGreatBaCopySp
import Derived.Test.YtgifbdjifmoafaaGreatStep
namespace Go.Proofs.YtgifbdjifmoafaaGreat
set_option linter.unusedVariables false
open Go.RowKit Bam

theorem orL_nilr (p : Ps) : orL p [] = p := by
  cases p with
  | nil => unfold orL; rfl
  | cons x p => unfold orL; rfl
theorem orL_nill (q : Ps) : orL [] q = q := by unfold orL; rfl
theorem orL_cc (i a : Nat) (p : Ps) (j b : Nat) (q : Ps) : orL ((i, a) :: p) ((j, b) :: q) = if j < i then (j, b) :: orL ((i, a) :: p) q else if i < j then (i, a) :: orL p ((j, b) :: q) else (i, a ||| b) :: orL p q := by
  conv => lhs; unfold orL
theorem orL_at {ps qs : Ps} {i j : Nat} (hi : i < ps.length) (hj : j < qs.length) {X A Y B : Nat} (h1 : ps.getD i (0, 0) = (X, A)) (h2 : qs.getD j (0, 0) = (Y, B)) :
    orL (ps.drop i) (qs.drop j) = if Y < X then (Y, B) :: orL (ps.drop i) (qs.drop (j + 1)) else if X < Y then (X, A) :: orL (ps.drop (i + 1)) (qs.drop j) else (X, A ||| B) :: orL (ps.drop (i + 1)) (qs.drop (j + 1)) := by
  have e := orL_cc X A (ps.drop (i + 1)) Y B (qs.drop (j + 1))
  rw [← h1, ← h2, ← drop_at hi, ← drop_at hj] at e
  rw [h1, h2] at *
  exact e
/-- the tail of a sparse array's slices -/
theorem sl_tail {w : World} {g n c : Nat} {e : TypeId} {S : List Nat} (h : Ue e w (.slice (some ⟨g, 0, none⟩) n c) S) (hn : n = S.length) {j : Nat} (hj : j < n) : Sl w (.slice (some ⟨g, j, none⟩) (n - j) (c - j)) (u64s (S.drop j)) := by
  subst hn
  rcases h.cases with ⟨e, e2⟩ | ⟨g', cap, e, _, h1, h2, hc⟩
  · cases e
  · injection e with e1 e2 e3
    injection e1 with e1; injection e1 with e1
    subst e1 e3
    refine ⟨some ⟨g, j, none⟩, S.length - j, c - j, rfl, by rw [u64s_len, List.length_drop], by omega, by omega, fun _ => ⟨g, j, rfl, fun t u hu => ?_⟩⟩
    have ht : t < (u64s (S.drop j)).length := (List.getElem?_eq_some_iff.1 hu).1
    rw [u64s_len, List.length_drop] at ht
    rw [u64s_at _ _ (by rw [List.length_drop]; omega)] at hu
    have e3 : (S.drop j).getD t 0 = S.getD (j + t) 0 := by rw [List.getD_eq_getElem?_getD, List.getElem?_drop, List.getD_eq_getElem?_getD]
    rw [e3] at hu
    rw [← Option.some.inj hu]
    exact hc (j + t) (by omega)
theorem SpAt.pairsU {w : World} {p : Nat} {F : List Nat} {ps : Ps} (h : SpAt w p F ps) : ∃ a1 c1 a2 c2 n, PairsAt w p ps a1 c1 a2 c2 n ∧ Us w (.slice a2 n c2) (ps.map Prod.fst) ∧ Ue 87 w (.slice a1 n c1) (ps.map Prod.snd) ∧ (0 < n → n ≤ c1 ∧ n ≤ c2) := by
  obtain ⟨a1, c1, a2, c2, h0, h1, hc, hU, hE⟩ := h.cells
  refine ⟨a1, c1, a2, c2, ps.length, ⟨rfl, h0, h1, fun r hr => ?_⟩, hU, hE, fun h0 => ⟨?_, ?_⟩⟩
  · obtain ⟨g1, g2, e1, e2, h⟩ := hc (by omega)
    exact ⟨g1, g2, e1, e2, (h r hr).1, (h r hr).2⟩
  · rcases hE.cases with ⟨e, e2⟩ | ⟨g, cap, e, _, hle, _⟩
    · have h3 := congrArg List.length e2; rw [List.length_map] at h3; have h4 : ps.length = 0 := h3; omega
    · rw [List.length_map] at e hle; simp only [Value.slice.injEq, true_and] at e; obtain ⟨_, e⟩ := e; omega
  · rcases hU.cases with ⟨e, e2⟩ | ⟨g, cap, e, _, hle, _⟩
    · have h3 := congrArg List.length e2; rw [List.length_map] at h3; have h4 : ps.length = 0 := h3; omega
    · rw [List.length_map] at e hle; simp only [Value.slice.injEq, true_and] at e; obtain ⟨_, e⟩ := e; omega
theorem nil_len {w : World} {B : Nat} {e : TypeId} {a : Option Addr} {n m c : Nat} {xs : List Value} (h : w.ownsRow B e 1 (.slice a m c) n xs) : m = n := by
  have hl := h.1
  rcases h.2 with ⟨e1, e2⟩ | ⟨g, cap, cur, e1, _⟩
  · injection e1 with _ e3 _
    first | omega | (simp_all; done)
  · injection e1 with _ e3 _
def OrLRel (ps qs : Ps) (w : World) (k : Nat) (s6 s7 s8 s9 : Value) (wr : World) : Prop :=
  ∃ (i j : Nat) (acc : Ps), s8 = .int .i64 (i : Int) ∧ s9 = .int .i64 (j : Int) ∧ i ≤ ps.length ∧ j ≤ qs.length ∧ (ps.length - i) + (qs.length - j) ≤ k ∧ AccAt wr w.heap.size s6 s7 acc ∧ acc ++ orL (ps.drop i) (qs.drop j) = orL ps qs ∧ acc.length ≤ i + j ∧ Below w.heap.size w wr

set_option maxRecDepth 100000 in
theorem orsp_right (p q : Nat) (F G : List Nat) (ps : Ps) (w : World) (h : SpAt w p F ps) (k : SpAt w q G []) (hn : ps.length ≤ 1000) :
    Calls Tryz.prog 132 #[.pointer (some ⟨p, 0, none⟩), .pointer (some ⟨q, 0, none⟩)] w fun e w' =>
      ∃ (r : Nat) (H : List Nat), e = .returned (.iface 99 (.pointer (some ⟨r, 0, none⟩))) ∧ SpAt w' r H ps ∧ (∀ x ∈ H, w.heap.size ≤ x) ∧ Below w.heap.size w w' := by
  have hcp := copysp_any p F ps w h hn
  have HCP := Lib.hid hcp
  obtain ⟨a1, c1, a2, c2, -, h1, -, -, -⟩ := k.cells
  replace h1 : w.cell? ⟨q, 1, none⟩ = some (.slice a2 0 c2) := h1
  clear h k hn hcp
  go_enter Tryz.func132, Tryz.ntmps132
  go_wp2_with fail
  refine HCP.out.mono ?_
  rintro e1 w' ⟨r, H, rfl, hs, hf, hb⟩
  have HS := Lib.hid hs
  have HF := Lib.hid hf
  have HB := Lib.hid hb
  clear hs hf hb
  go_wp2_with fail
  go_ret
  exact ⟨r, H, rfl, HS.out, HF.out, HB.out⟩
set_option maxRecDepth 100000 in
theorem orsp_left (p q : Nat) (F G : List Nat) (qs : Ps) (w : World) (h : SpAt w p F []) (k : SpAt w q G qs) (hm : qs.length ≤ 1000) (h0 : 0 < qs.length) :
    Calls Tryz.prog 132 #[.pointer (some ⟨p, 0, none⟩), .pointer (some ⟨q, 0, none⟩)] w fun e w' =>
      ∃ (r : Nat) (H : List Nat), e = .returned (.iface 99 (.pointer (some ⟨r, 0, none⟩))) ∧ SpAt w' r H qs ∧ (∀ x ∈ H, w.heap.size ≤ x) ∧ Below w.heap.size w w' := by
  have hcp := copysp_any q G qs w k hm
  have HCP := Lib.hid hcp
  obtain ⟨a1, c1, a2, c2, -, h1, -, -, -⟩ := k.cells
  obtain ⟨b1, d1, b2, d2, -, h2, -, -, -⟩ := h.cells
  replace h2 : w.cell? ⟨p, 1, none⟩ = some (.slice b2 0 d2) := h2
  obtain ⟨m, hM⟩ : ∃ m, qs.length = m := ⟨_, rfl⟩
  rw [hM] at h1 h0
  have t0 : ((m : Int) == 0) = false := by rw [beq_eq_false_iff_ne]; omega
  clear h k hm hcp hM
  go_enter Tryz.func132, Tryz.ntmps132
  go_wp2_with fail
  refine HCP.out.mono ?_
  rintro e1 w' ⟨r, H, rfl, hs, hf, hb⟩
  have HS := Lib.hid hs
  have HF := Lib.hid hf
  have HB := Lib.hid hb
  clear hs hf hb
  go_wp2_with fail
  go_ret
  exact ⟨r, H, rfl, HS.out, HF.out, HB.out⟩

set_option maxRecDepth 100000 in
set_option maxHeartbeats 8000000 in
theorem orsp_main (p q : Nat) (F G : List Nat) (ps qs : Ps) (w : World) (h : SpAt w p F ps) (k : SpAt w q G qs) (ho1 : Ok ps) (ho2 : Ok qs) (hn : ps.length ≤ 1000) (hm : qs.length ≤ 1000) (hn0 : 0 < ps.length) (hm0 : 0 < qs.length) (hs1 : ∀ q ∈ ps, q.1 < 144115188075855872) (hs2 : ∀ q ∈ qs, q.1 < 144115188075855872) :
    Calls Tryz.prog 132 #[.pointer (some ⟨p, 0, none⟩), .pointer (some ⟨q, 0, none⟩)] w fun e w' =>
      ∃ (r : Nat) (H : List Nat), e = .returned (.iface 99 (.pointer (some ⟨r, 0, none⟩))) ∧ SpAt w' r H (orL ps qs) ∧ (∀ x ∈ H, w.heap.size ≤ x) ∧ Below w.heap.size w w' := by
  obtain ⟨a1, c1, a2, c2, n, hp, hpU, hpE, hpc⟩ := h.pairsU
  obtain ⟨b1, d1, b2, d2, m, hq, hqU, hqE, hqc⟩ := k.pairsU
  have HPU := Lib.hid hpU
  have HPE := Lib.hid hpE
  have HQU := Lib.hid hqU
  have HQE := Lib.hid hqE
  have HPC := Lib.hid hpc
  have HQC := Lib.hid hqc
  clear hpU hpE hqU hqE hpc hqc
  have HP := Lib.hid hp
  have HQ := Lib.hid hq
  have HO1 := Lib.hid ho1
  have HO2 := Lib.hid ho2
  have HS1 := Lib.hid hs1
  have HS2 := Lib.hid hs2
  obtain ⟨hpn, p0, p1, -⟩ := hp
  obtain ⟨hqn, q0, q1, -⟩ := hq
  have HPN := Lib.hid hpn
  have HQN := Lib.hid hqn
  rw [← hpn] at hn hn0
  rw [← hqn] at hm hm0
  have t0 : ((n : Int) == 0) = false := by rw [beq_eq_false_iff_ne]; omega
  have t1 : ((m : Int) == 0) = false := by rw [beq_eq_false_iff_ne]; omega
  clear hpn hqn h k ho1 ho2 hs1 hs2
  go_enter Tryz.func132, Tryz.ntmps132
  go_wp2_with fail
  go_still_tail 10, (by kernel_rfl)
  go_wp2_with fail
  have hb0 : Below w.heap.size w (w.alloc (.cells #[.int .i64 (n : Int), .int .i64 (m : Int)] 2)).drew := ((Below.refl _ _).alloc (Nat.le_refl _) _).drew
  have hx0 : (w.alloc (.cells #[.int .i64 (n : Int), .int .i64 (m : Int)] 2)).drew.cell? ⟨w.heap.size, 0, none⟩ = some (.int .i64 (n : Int)) := (Blk.new w _ _).cell 0 rfl
  have hx1 : (w.alloc (.cells #[.int .i64 (n : Int), .int .i64 (m : Int)] 2)).drew.cell? ⟨w.heap.size, 1, none⟩ = some (.int .i64 (m : Int)) := (Blk.new w _ _).cell 1 rfl
  obtain ⟨w0, hw0⟩ : ∃ w0, (w.alloc (.cells #[.int .i64 (n : Int), .int .i64 (m : Int)] 2)).drew = w0 := ⟨_, rfl⟩
  rw [hw0] at hb0 hx0 hx1 ⊢
  refine (maxi_any w.heap.size n m w0 hx0 hx1).mono ?_
  have HB0 := Lib.hid hb0
  have hs0 := hb0.size
  clear hb0 hx0 hx1 hw0 p0 p1 q0 q1 t0 t1
  rintro e w' ⟨rfl, rfl⟩
  obtain ⟨M, hM⟩ : ∃ M, Nat.max n m = M := ⟨_, rfl⟩
  rw [hM]
  have hM1 : M ≤ 1000 := by rw [← hM]; exact Nat.max_le.2 ⟨hn, hm⟩
  clear hM
  go_wp2_with (first
    | (at_make; refine wpList_make2 rfl _ _ 109 rfl w.heap.size 25 (.int .u64 0) 8 Tryz.underlying109 info_u64 rfl _ _ _ _ 0 M rfl rfl rfl rfl (Nat.zero_le _) (by omega) (by unfold maxLen; omega) hs0 ?_; intro w1 hown1 hb1 hs1; have HOW1 := Lib.hid hown1; have HB1 := Lib.hid (HB0.out.trans (hb1.mono hs0)); have hs1' := HB1.out.size; clear hown1 hb1 hs1)
    | (at_make; refine wpList_make2 rfl _ _ 108 rfl w.heap.size 87 (.int .u64 0) 8 Tryz.underlying108 info_blk rfl _ _ _ _ 0 M rfl rfl rfl rfl (Nat.zero_le _) (by omega) (by unfold maxLen; omega) hs1' ?_; intro w2 hown2 hb2 hs2; have HOW2 := Lib.hid hown2; have HO12 := Lib.hid (own_below HOW1.out hb2); have HB2 := Lib.hid (HB1.out.trans (hb2.mono hs1')); clear hown2 hb2 hs2))
  have hs2 := HB2.out.size
  go_loopg [6, 7, 8, 9] (n + m) (fun k s6 s7 s8 s9 wr => OrLRel ps qs w k s6 s7 s8 s9 wr)
  case atStart => exact ⟨0, 0, [], rfl, rfl, Nat.zero_le _, Nat.zero_le _, by have := HPN.out; have := HQN.out; omega, ⟨_, _, _, _, rfl, rfl, HO12.out, HOW2.out⟩, rfl, Nat.le_refl _, HB2.out⟩
  case round =>
    obtain ⟨i, j, acc, rfl, rfl, hi, hj, hk, hacc, hand, hal, hbel⟩ := hrel
    rw [← HPN.out] at hi hk
    rw [← HQN.out] at hj hk
    obtain ⟨a6, c6, a7, c7, rfl, rfl, o6, o7⟩ := hacc
    obtain ⟨z, hz⟩ : ∃ z, acc.length = z := ⟨_, rfl⟩
    rw [hz] at o6 o7 hal ⊢
    have HZ := Lib.hid hz
    have HO6 := Lib.hid o6
    have HO7 := Lib.hid o7
    have HAND := Lib.hid hand
    have HBE := Lib.hid hbel
    have hsr := hbel.size
    obtain ⟨-, p0, p1, pc⟩ := HP.out
    obtain ⟨-, q0, q1, qc⟩ := HQ.out
    replace p0 := cell_below hbel (Nat.le_refl _) p0
    replace p1 := cell_below hbel (Nat.le_refl _) p1
    replace q0 := cell_below hbel (Nat.le_refl _) q0
    replace q1 := cell_below hbel (Nat.le_refl _) q1
    have hzl : z ≤ 2000 := by omega
    clear hz o6 o7 hand
    by_cases hin : i = n
    · have t0 : ((i : Int) == (n : Int)) = true := by rw [hin]; exact beq_self_eq_true _
      by_cases hjm : j = m
      · have t1 : ((j : Int) == (m : Int)) = true := by rw [hjm]; exact beq_self_eq_true _
        have hall : acc = orL ps qs := by rw [← HAND.out, List.drop_eq_nil_of_le (by rw [← HPN.out]; omega), List.drop_eq_nil_of_le (by rw [← HQN.out]; omega), orL_nilr, List.append_nil]
        clear pc qc hbel hin hjm
        go_wp2_with fail
        go_ret
        obtain ⟨H, hsp, hfr⟩ := acc_end HZ.out hsr HO6.out HO7.out
        exact ⟨_, H, rfl, hall ▸ hsp, hfr, HBE.out.alloc hsr _⟩
      · have t1 : ((j : Int) == (m : Int)) = false := by rw [beq_eq_false_iff_ne]; omega
        have hil : j < m := by omega
        have hall : acc ++ qs.drop j = orL ps qs := by rw [← HAND.out, show List.drop i ps = [] from List.drop_eq_nil_of_le (by rw [← HPN.out]; omega), orL_nill]
        have hcc := HQC.out (by omega)
        obtain ⟨g3, g4, e3, e4, -, -⟩ := qc j (by omega)
        have hU4 := own_below HQU.out hbel
        have hE4 := HQE.out
        rw [e4] at hU4
        rw [e3] at hE4
        have HE4 := Lib.hid hE4
        obtain ⟨L, hL⟩ : ∃ L, m - j = L := ⟨_, rfl⟩
        have hsl := sl_tail (e := 25) hU4 (by rw [List.length_map]; exact HQN.out) (j := j) (by omega)
        rw [hL] at hsl
        have HSL := Lib.hid hsl
        have HLL := Lib.hid hL
        have hl1 : (u64s ((qs.map Prod.fst).drop j)).length = L := by rw [u64s_len, List.length_drop, List.length_map, ← HQN.out, hL]
        have hl2 : (u64s ((qs.map Prod.snd).drop j)).length = L := by rw [u64s_len, List.length_drop, List.length_map, ← HQN.out, hL]
        have HL1 := Lib.hid hl1
        have HL2 := Lib.hid hl2
        have hLl : L ≤ 1000 := by omega
        have hal2 : (acc ++ qs.drop j).length = z + L := by rw [List.length_append, HZ.out, List.length_drop, ← HQN.out, hL]
        have HAL := Lib.hid hal2
        have HALL := Lib.hid hall
        subst e3 e4
        have j1 : (j : Int) ≤ (m : Int) := by omega
        have j2 : (0 : Int) ≤ (j : Int) := by omega
        have j3 : j ≤ m := by omega
        have j4 : (m : Int) ≤ (d2 : Int) := by omega
        have j5 : (m : Int) ≤ (d1 : Int) := by omega
        have j6 : (j : Int) ≤ (d2 : Int) := by omega
        have j7 : (j : Int) ≤ (d1 : Int) := by omega
        have j8 : j ≤ d2 := by omega
        have j9 : j ≤ d1 := by omega
        have j10 : ¬ d2 = j := by omega
        have j11 : ¬ d1 = j := by omega
        have j12 : (m : Int) - (j : Int) = (L : Int) := by omega
        clear pc qc hbel hin hjm hal hall hal2 hsl hl1 hl2 hU4 hE4 hcc hL
        go_wp2_with (first
          | (at_builtin; refine wpList_appendSl rfl (.tmp 70) (.tmp 76) 109 109 rfl w.heap.size 25 25 (.int .u64 0) 8 Tryz.underlying109 Tryz.underlying109 info_u64 rfl (.slice a6 z c6) z _ (by go_simp) HO6.out (.slice (some ⟨g4, j, none⟩) L (d2 - j)) _ (by go_simp; first | done | exact HLL.out) HSL.out (u64s_one _) (by rw [HL1.out]; unfold maxLen; omega) (by rw [HL1.out]; omega) hsr ?_; intro p5 n5 k5 w5 hown5 hg5 hb5; have HO65 := Lib.hid hown5; have HO75 := Lib.hid ((Fr.of_grown (v' := .slice a6 z c6) hg5 (fun k hk => .inl hk)).own HO7.out (row_row HO7.out HO6.out (by decide))); have HB5 := Lib.hid (HBE.out.trans hb5); have hs5 := HB5.out.size; obtain ⟨-, r0, r1, -⟩ := HQ.out; replace r0 := cell_below HB5.out (Nat.le_refl _) r0; replace r1 := cell_below HB5.out (Nat.le_refl _) r1; have HSL2 := Lib.hid (sl_tail (e := 87) (own_below HE4.out HB5.out) (by rw [List.length_map]; exact HQN.out) (j := j) (by omega)); clear hown5 hg5 hb5 p0 p1 q0 q1)
          | (at_builtin; refine wpList_appendSl rfl (.tmp 78) (.tmp 84) 108 108 rfl w.heap.size 87 87 (.int .u64 0) 8 Tryz.underlying108 Tryz.underlying108 info_blk rfl (.slice a7 z c7) z _ (by go_simp) HO75.out (.slice (some ⟨g3, j, none⟩) L (d1 - j)) _ (by go_simp; first | done | exact HLL.out) (HLL.out ▸ HSL2.out) (u64s_one _) (by rw [HL2.out]; unfold maxLen; omega) (by rw [HL2.out]; omega) hs5 ?_; intro p6 n6 k6 w6 hown6 hg6 hb6; have HO76 := Lib.hid hown6; have HO66 := Lib.hid ((Fr.of_grown (v' := .slice a7 z c7) hg6 (fun k hk => .inl hk)).own HO65.out (row_row HO65.out HO75.out (by decide))); have HB6 := Lib.hid (HB5.out.trans hb6); clear hown6 hg6 hb6))
        go_ret
        have x5 := HO66.out
        have x6 := HO76.out
        have m5 := nil_len x5
        have m6 := nil_len x6
        rw [HL1.out] at x5 m5
        rw [HL2.out] at x6 m6
        subst m5 m6
        have hs6 := HB6.out.size
        obtain ⟨H, hsp, hfr⟩ := acc_end HAL.out hs6 (by rw [List.map_append, List.map_drop, u64s_append]; exact x5) (by rw [List.map_append, List.map_drop, u64s_append]; exact x6)
        exact ⟨_, H, rfl, HALL.out ▸ hsp, hfr, HB6.out.alloc hs6 _⟩
    · have t0 : ((i : Int) == (n : Int)) = false := by rw [beq_eq_false_iff_ne]; omega
      have hil : i < n := by omega
      by_cases hjm : j = m
      · have t1 : ((j : Int) == (m : Int)) = true := by rw [hjm]; exact beq_self_eq_true _
        have hil2 : i < n := hil
        have hall : acc ++ ps.drop i = orL ps qs := by rw [← HAND.out, show List.drop j qs = [] from List.drop_eq_nil_of_le (by rw [← HQN.out]; omega), orL_nilr]
        have hcc := HPC.out (by omega)
        obtain ⟨g3, g4, e3, e4, -, -⟩ := pc i (by omega)
        have hU4 := own_below HPU.out hbel
        have hE4 := HPE.out
        rw [e4] at hU4
        rw [e3] at hE4
        have HE4 := Lib.hid hE4
        obtain ⟨L, hL⟩ : ∃ L, n - i = L := ⟨_, rfl⟩
        have hsl := sl_tail (e := 25) hU4 (by rw [List.length_map]; exact HPN.out) (j := i) (by omega)
        rw [hL] at hsl
        have HSL := Lib.hid hsl
        have HLL := Lib.hid hL
        have hl1 : (u64s ((ps.map Prod.fst).drop i)).length = L := by rw [u64s_len, List.length_drop, List.length_map, ← HPN.out, hL]
        have hl2 : (u64s ((ps.map Prod.snd).drop i)).length = L := by rw [u64s_len, List.length_drop, List.length_map, ← HPN.out, hL]
        have HL1 := Lib.hid hl1
        have HL2 := Lib.hid hl2
        have hLl : L ≤ 1000 := by omega
        have hal2 : (acc ++ ps.drop i).length = z + L := by rw [List.length_append, HZ.out, List.length_drop, ← HPN.out, hL]
        have HAL := Lib.hid hal2
        have HALL := Lib.hid hall
        subst e3 e4
        have j1 : (i : Int) ≤ (n : Int) := by omega
        have j2 : (0 : Int) ≤ (i : Int) := by omega
        have j3 : i ≤ n := by omega
        have j4 : (n : Int) ≤ (c2 : Int) := by omega
        have j5 : (n : Int) ≤ (c1 : Int) := by omega
        have j6 : (i : Int) ≤ (c2 : Int) := by omega
        have j7 : (i : Int) ≤ (c1 : Int) := by omega
        have j8 : i ≤ c2 := by omega
        have j9 : i ≤ c1 := by omega
        have j10 : ¬ c2 = i := by omega
        have j11 : ¬ c1 = i := by omega
        have j12 : (n : Int) - (i : Int) = (L : Int) := by omega
        clear pc qc hbel hin hjm hal hall hal2 hsl hl1 hl2 hU4 hE4 hcc hL
        go_wp2_with (first
          | (at_builtin; refine wpList_appendSl rfl (.tmp 93) (.tmp 99) 109 109 rfl w.heap.size 25 25 (.int .u64 0) 8 Tryz.underlying109 Tryz.underlying109 info_u64 rfl (.slice a6 z c6) z _ (by go_simp) HO6.out (.slice (some ⟨g4, i, none⟩) L (c2 - i)) _ (by go_simp; first | done | exact HLL.out) HSL.out (u64s_one _) (by rw [HL1.out]; unfold maxLen; omega) (by rw [HL1.out]; omega) hsr ?_; intro p5 n5 k5 w5 hown5 hg5 hb5; have HO65 := Lib.hid hown5; have HO75 := Lib.hid ((Fr.of_grown (v' := .slice a6 z c6) hg5 (fun k hk => .inl hk)).own HO7.out (row_row HO7.out HO6.out (by decide))); have HB5 := Lib.hid (HBE.out.trans hb5); have hs5 := HB5.out.size; obtain ⟨-, r0, r1, -⟩ := HP.out; replace r0 := cell_below HB5.out (Nat.le_refl _) r0; replace r1 := cell_below HB5.out (Nat.le_refl _) r1; have HSL2 := Lib.hid (sl_tail (e := 87) (own_below HE4.out HB5.out) (by rw [List.length_map]; exact HPN.out) (j := i) (by omega)); clear hown5 hg5 hb5 p0 p1 q0 q1)
          | (at_builtin; refine wpList_appendSl rfl (.tmp 101) (.tmp 107) 108 108 rfl w.heap.size 87 87 (.int .u64 0) 8 Tryz.underlying108 Tryz.underlying108 info_blk rfl (.slice a7 z c7) z _ (by go_simp) HO75.out (.slice (some ⟨g3, i, none⟩) L (c1 - i)) _ (by go_simp; first | done | exact HLL.out) (HLL.out ▸ HSL2.out) (u64s_one _) (by rw [HL2.out]; unfold maxLen; omega) (by rw [HL2.out]; omega) hs5 ?_; intro p6 n6 k6 w6 hown6 hg6 hb6; have HO76 := Lib.hid hown6; have HO66 := Lib.hid ((Fr.of_grown (v' := .slice a7 z c7) hg6 (fun k hk => .inl hk)).own HO65.out (row_row HO65.out HO75.out (by decide))); have HB6 := Lib.hid (HB5.out.trans hb6); clear hown6 hg6 hb6))
        go_ret
        have x5 := HO66.out
        have x6 := HO76.out
        have m5 := nil_len x5
        have m6 := nil_len x6
        rw [HL1.out] at x5 m5
        rw [HL2.out] at x6 m6
        subst m5 m6
        have hs6 := HB6.out.size
        obtain ⟨H, hsp, hfr⟩ := acc_end HAL.out hs6 (by rw [List.map_append, List.map_drop, u64s_append]; exact x5) (by rw [List.map_append, List.map_drop, u64s_append]; exact x6)
        exact ⟨_, H, rfl, HALL.out ▸ hsp, hfr, HB6.out.alloc hs6 _⟩
      · have t1 : ((j : Int) == (m : Int)) = false := by rw [beq_eq_false_iff_ne]; omega
        have hjl : j < m := by omega
        obtain ⟨g1, g2, rfl, rfl, u1, u2⟩ := pc i hil
        obtain ⟨g3, g4, rfl, rfl, v1, v2⟩ := qc j hjl
        replace u1 := cell_below hbel (Nat.le_refl _) u1
        replace u2 := cell_below hbel (Nat.le_refl _) u2
        replace v1 := cell_below hbel (Nat.le_refl _) v1
        replace v2 := cell_below hbel (Nat.le_refl _) v2
        have hlk := orL_at (ps := ps) (qs := qs) (i := i) (j := j) (by rw [← HPN.out]; exact hil) (by rw [← HQN.out]; exact hjl) (X := (ps.getD i (0, 0)).1) (A := (ps.getD i (0, 0)).2) (Y := (qs.getD j (0, 0)).1) (B := (qs.getD j (0, 0)).2) rfl rfl
        have hmp : ps.getD i (0, 0) ∈ ps := by rw [List.getD_eq_getElem?_getD, List.getElem?_eq_getElem (by rw [← HPN.out]; exact hil)]; exact List.getElem_mem _
        have hmq : qs.getD j (0, 0) ∈ qs := by rw [List.getD_eq_getElem?_getD, List.getElem?_eq_getElem (by rw [← HQN.out]; exact hjl)]; exact List.getElem_mem _
        have hA : (ps.getD i (0, 0)).2 < 18446744073709551616 := HO1.out.2 _ hmp
        have hB : (qs.getD j (0, 0)).2 < 18446744073709551616 := HO2.out.2 _ hmq
        have hXs := HS1.out _ hmp
        have hYs := HS2.out _ hmq
        obtain ⟨X, hX⟩ : ∃ X, (ps.getD i (0, 0)).1 = X := ⟨_, rfl⟩
        obtain ⟨A, hA2⟩ : ∃ A, (ps.getD i (0, 0)).2 = A := ⟨_, rfl⟩
        obtain ⟨Y, hY⟩ : ∃ Y, (qs.getD j (0, 0)).1 = Y := ⟨_, rfl⟩
        obtain ⟨B, hB2⟩ : ∃ B, (qs.getD j (0, 0)).2 = B := ⟨_, rfl⟩
        rw [hX, hA2, hY, hB2] at hlk
        rw [hX] at u2 hXs
        rw [hA2] at u1 hA
        rw [hY] at v2 hYs
        rw [hB2] at v1 hB
        obtain ⟨D, hD⟩ : ∃ D : Int, (Y : Int) - (X : Int) = D := ⟨_, rfl⟩
        have i1 : (i : Int) < (n : Int) := by omega
        have i2 : (0 : Int) ≤ (i : Int) := by omega
        have j1 : (j : Int) < (m : Int) := by omega
        have j2 : (0 : Int) ≤ (j : Int) := by omega
        have W1 := Lib.hid (show IntKind.i64.wrap (X : Int) = (X : Int) from IntWalk.i64_in _ (by omega))
        have W2 := Lib.hid (show IntKind.i64.wrap (Y : Int) = (Y : Int) from IntWalk.i64_in _ (by omega))
        have W3 := Lib.hid (show IntKind.i64.wrap D = D from IntWalk.i64_in _ (by omega))
        have hDlt : (0 < D ↔ X < Y) ∧ (D < 0 ↔ Y < X) := by omega
        have HA2 := Lib.hid hA2
        have HB2e := Lib.hid hB2
        have HLK := Lib.hid hlk
        have HIN := Lib.hid hin
        have HJM := Lib.hid hjm
        clear pc qc hX hA2 hY hB2 hlk hbel hin hjm hmp hmq hXs hYs
        cases gk with
        | zero => omega
        | succ k =>
          by_cases hXY : X < Y
          · have t2 : decide ((0 : Int) < D) = true := by rw [decide_eq_true_iff]; omega
            have he := HLK.out
            rw [if_neg (by omega), if_pos hXY] at he
            have HE : Hid (orL (ps.drop i) (qs.drop j) = [(X, A)] ++ orL (ps.drop (i + 1)) (qs.drop j)) := Lib.hid he
            have HO64 := HO6
            have HO74 := HO7
            have HB4 := HBE
            have hs4 := hsr
            have w1 := W1.out
            have w2 := W2.out
            have w3 := W3.out
            clear he hXY hDlt hA hB
            go_wp2_with (first
              | (at_builtin; refine wpList_append1 rfl _ _ 109 rfl w.heap.size 25 (.int .u64 0) 8 Tryz.underlying109 info_u64 rfl (.slice a6 z c6) z _ rfl HO64.out (.int .u64 (X : Int)) rfl rfl (by unfold maxLen; omega) (by omega) (by omega) ?_; intro g5 k5 w5 hown5 hg5 hb5; have HO65 := Lib.hid hown5; have HO75 := Lib.hid ((Fr.of_grown (v' := .slice a6 z c6) hg5 (fun k hk => .inl hk)).own HO74.out (row_row HO74.out HO64.out (by decide))); have HB5 := Lib.hid (HB4.out.trans hb5); have hs5 := HB5.out.size; obtain ⟨-, p0', p1', pc'⟩ := HP.out; have p0b := cell_below HB5.out (Nat.le_refl _) p0'; have p1b := cell_below HB5.out (Nat.le_refl _) p1'; obtain ⟨gx, gy, ex, ey, ux, uy⟩ := pc' i hil; injection ex with ex; injection ex with ex; subst ex; have u1b := cell_below HB5.out (Nat.le_refl _) ux; rw [HA2.out] at u1b; clear p0' p1' pc' ux uy ey; clear hown5 hg5 hb5)
              | (at_builtin; refine wpList_append1 rfl _ _ 108 rfl w.heap.size 87 (.int .u64 0) 8 Tryz.underlying108 info_blk rfl (.slice a7 z c7) z _ rfl HO75.out (.int .u64 (A : Int)) rfl rfl (by unfold maxLen; omega) (by omega) (by omega) ?_; intro g6 k6 w6 hown6 hg6 hb6; have HO76 := Lib.hid hown6; have HO66 := Lib.hid ((Fr.of_grown (v' := .slice a7 z c7) hg6 (fun k hk => .inl hk)).own HO65.out (row_row HO65.out HO75.out (by decide))); have HB6 := Lib.hid (HB5.out.trans hb6); clear hown6 hg6 hb6))
            go_roundg k
            case measure => omega
            case rel =>
              have he := HE.out
              have o6 := HO66.out
              have o7 := HO76.out
              have e1 : (acc ++ [(X, A)]).length = z + 1 := by rw [List.length_append, HZ.out]; rfl
              refine ⟨i + 1, j, acc ++ [(X, A)], by go_num, rfl, by rw [← HPN.out]; omega, by rw [← HQN.out]; omega, by rw [← HPN.out, ← HQN.out]; omega, ⟨some ⟨g5, 0, none⟩, k5, some ⟨g6, 0, none⟩, k6, by rw [e1], by rw [e1], ?_, ?_⟩, ?_, by rw [e1]; omega, HB6.out⟩
              · rw [e1, List.map_append, u64s_append]; exact o6
              · rw [e1, List.map_append, u64s_append]; exact o7
              · rw [List.append_assoc, ← he]; exact HAND.out
          · have t2 : decide ((0 : Int) < D) = false := by rw [decide_eq_false_iff_not]; omega
            by_cases hYX : Y < X
            · have t3 : decide (D < (0 : Int)) = true := by rw [decide_eq_true_iff]; omega
              have he := HLK.out
              rw [if_pos hYX] at he
              have HE : Hid (orL (ps.drop i) (qs.drop j) = [(Y, B)] ++ orL (ps.drop i) (qs.drop (j + 1))) := Lib.hid he
              have HO64 := HO6
              have HO74 := HO7
              have HB4 := HBE
              have hs4 := hsr
              have w1 := W1.out
              have w2 := W2.out
              have w3 := W3.out
              clear he hYX hXY hDlt hA hB
              go_wp2_with (first
                | (at_builtin; refine wpList_append1 rfl _ _ 109 rfl w.heap.size 25 (.int .u64 0) 8 Tryz.underlying109 info_u64 rfl (.slice a6 z c6) z _ rfl HO64.out (.int .u64 (Y : Int)) rfl rfl (by unfold maxLen; omega) (by omega) (by omega) ?_; intro g5 k5 w5 hown5 hg5 hb5; have HO65 := Lib.hid hown5; have HO75 := Lib.hid ((Fr.of_grown (v' := .slice a6 z c6) hg5 (fun k hk => .inl hk)).own HO74.out (row_row HO74.out HO64.out (by decide))); have HB5 := Lib.hid (HB4.out.trans hb5); have hs5 := HB5.out.size; obtain ⟨-, q0', q1', qc'⟩ := HQ.out; have q0b := cell_below HB5.out (Nat.le_refl _) q0'; have q1b := cell_below HB5.out (Nat.le_refl _) q1'; obtain ⟨gx, gy, ex, ey, ux, uy⟩ := qc' j hjl; injection ex with ex; injection ex with ex; subst ex; have v1b := cell_below HB5.out (Nat.le_refl _) ux; rw [HB2e.out] at v1b; clear q0' q1' qc' ux uy ey; clear hown5 hg5 hb5)
                | (at_builtin; refine wpList_append1 rfl _ _ 108 rfl w.heap.size 87 (.int .u64 0) 8 Tryz.underlying108 info_blk rfl (.slice a7 z c7) z _ rfl HO75.out (.int .u64 (B : Int)) rfl rfl (by unfold maxLen; omega) (by omega) (by omega) ?_; intro g6 k6 w6 hown6 hg6 hb6; have HO76 := Lib.hid hown6; have HO66 := Lib.hid ((Fr.of_grown (v' := .slice a7 z c7) hg6 (fun k hk => .inl hk)).own HO65.out (row_row HO65.out HO75.out (by decide))); have HB6 := Lib.hid (HB5.out.trans hb6); clear hown6 hg6 hb6))
              go_roundg k
              case measure => omega
              case rel =>
                have he := HE.out
                have o6 := HO66.out
                have o7 := HO76.out
                have e1 : (acc ++ [(Y, B)]).length = z + 1 := by rw [List.length_append, HZ.out]; rfl
                refine ⟨i, j + 1, acc ++ [(Y, B)], rfl, by go_num, by rw [← HPN.out]; omega, by rw [← HQN.out]; omega, by rw [← HPN.out, ← HQN.out]; omega, ⟨some ⟨g5, 0, none⟩, k5, some ⟨g6, 0, none⟩, k6, by rw [e1], by rw [e1], ?_, ?_⟩, ?_, by rw [e1]; omega, HB6.out⟩
                · rw [e1, List.map_append, u64s_append]; exact o6
                · rw [e1, List.map_append, u64s_append]; exact o7
                · rw [List.append_assoc, ← he]; exact HAND.out
            · have t3 : decide (D < (0 : Int)) = false := by rw [decide_eq_false_iff_not]; omega
              have hXeY : Y = X := by omega
              subst hXeY
              have he := HLK.out
              rw [if_neg hYX, if_neg hXY] at he
              obtain ⟨R, hR⟩ : ∃ R, A ||| B = R := ⟨_, rfl⟩
              rw [hR] at he
              have HE : Hid (orL (ps.drop i) (qs.drop j) = [(Y, R)] ++ orL (ps.drop (i + 1)) (qs.drop (j + 1))) := Lib.hid he
              have hbo : ∀ w', Calls Tryz.prog 108 #[.int .u64 (A : Int), .int .u64 (B : Int)] w' fun e w'' => e = .returned (.int .u64 (R : Int)) ∧ w'' = w' := fun w' => hR ▸ (bor_any A B hA hB w').mono fun _ _ h => ⟨h.1, h.2.symm⟩
              have HBO := Lib.hid hbo
              have HO64 := HO6
              have HO74 := HO7
              have HB4 := HBE
              have hs4 := hsr
              have w1 := W1.out
              have w3 := W3.out
              clear he hYX hXY hDlt hA hB hbo hR
              have HMX := Lib.hid (show z + [Value.int .u64 (R : Int)].length ≤ maxLen by simp; unfold maxLen; omega)
              have HMY := Lib.hid (show (z + [Value.int .u64 (R : Int)].length) * 8 ≤ 140737488355328 by simp; omega)
              go_wp2_with (at_builtin; refine wpList_append1 rfl _ _ 109 rfl w.heap.size 25 (.int .u64 0) 8 Tryz.underlying109 info_u64 rfl (.slice a6 z c6) z _ rfl HO64.out (.int .u64 (Y : Int)) rfl rfl (by unfold maxLen; omega) (by omega) (by omega) ?_; intro g5 k5 w5 hown5 hg5 hb5; have HO65 := Lib.hid hown5; have HO75 := Lib.hid ((Fr.of_grown (v' := .slice a6 z c6) hg5 (fun k hk => .inl hk)).own HO74.out (row_row HO74.out HO64.out (by decide))); have HB5 := Lib.hid (HB4.out.trans hb5); have hs5 := HB5.out.size; obtain ⟨-, p0', p1', pc'⟩ := HP.out; have p0b := cell_below HB5.out (Nat.le_refl _) p0'; have p1b := cell_below HB5.out (Nat.le_refl _) p1'; obtain ⟨gx, gy, ex, ey, ux, uy⟩ := pc' i hil; injection ex with ex; injection ex with ex; subst ex; have u1b := cell_below HB5.out (Nat.le_refl _) ux; rw [HA2.out] at u1b; clear p0' p1' pc' ux uy ey; obtain ⟨-, q0', q1', qc'⟩ := HQ.out; have q0b := cell_below HB5.out (Nat.le_refl _) q0'; have q1b := cell_below HB5.out (Nat.le_refl _) q1'; obtain ⟨gx, gy, ex, ey, ux, uy⟩ := qc' j hjl; injection ex with ex; injection ex with ex; subst ex; have v1b := cell_below HB5.out (Nat.le_refl _) ux; rw [HB2e.out] at v1b; clear q0' q1' qc' ux uy ey; clear hown5 hg5 hb5 u1 u2 v1 v2 p0 p1 q0 q1)
              go_region_held3 (fun w' => w'.cell? ⟨p, 0, none⟩ = some (.slice (some ⟨g1, 0, none⟩) n c1) ∧ w'.cell? ⟨g1, i, none⟩ = some (.int .u64 (A : Int)) ∧ w'.cell? ⟨q, 0, none⟩ = some (.slice (some ⟨g3, 0, none⟩) m d1) ∧ w'.cell? ⟨g3, j, none⟩ = some (.int .u64 (B : Int))) (first | go_keep | exact ⟨by assumption, by assumption, by assumption, by assumption⟩)
                (first
                  | (go_at_call 108; (with_reducible refine Calls.mono (HBO.out _) ?_); rintro e w6 ⟨rfl, rfl⟩)
                  | (refine step_apSl (by rfl) (.tmp 132) (.tmp 148) 108 108 (by rfl) w.heap.size 87 87 (.int .u64 0) 8 Tryz.underlying108 Tryz.underlying108 info_blk rfl (.slice a7 z c7) z (u64s (acc.map Prod.snd)) (by rfl) ?_ _ [Value.int .u64 (R : Int)] (by rfl) ?_ (by simp [Value.oneCell']) HMX.out HMY.out ?_ ?_; (repeat (first | with_reducible exact HO75.out | with_reducible refine World.ownsRow.alloc ?_ _ | with_reducible refine row_drew ?_)); (first | exact sl_new _ _ _ | exact sl_newD _ _ _); (first | exact hs5 | (simp; omega)); intro p9 m9 c9 w9 hown9 hg9 hb9; have HG9 := Lib.hid hg9; have HO9 := Lib.hid hown9; have HB9 : Hid (Below w.heap.size w w9) := Lib.hid (HB5.out.trans (Below.trans (by (repeat (first | with_reducible exact Below.refl _ _ | with_reducible refine Below.drew ?_ | with_reducible exact (Below.refl _ _).alloc hs5 _))) hb9)); have r0 := cell_below HB9.out (Nat.le_refl _) HP.out.2.1; have r2 := cell_below HB9.out (Nat.le_refl _) HQ.out.2.1; have r1 : w9.cell? ⟨g1, i, none⟩ = some (.int .u64 (A : Int)) := (by obtain ⟨gx, gy, ex, ey, ux, uy⟩ := HP.out.2.2.2 i hil; injection ex with ex; injection ex with ex; subst ex; have := cell_below HB9.out (Nat.le_refl _) ux; rw [HA2.out] at this; exact this); have r3 : w9.cell? ⟨g3, j, none⟩ = some (.int .u64 (B : Int)) := (by obtain ⟨gx, gy, ex, ey, ux, uy⟩ := HQ.out.2.2.2 j hjl; injection ex with ex; injection ex with ex; subst ex; have := cell_below HB9.out (Nat.le_refl _) ux; rw [HB2e.out] at this; exact this); clear hg9 hown9 hb9)
                  | fail)
              all_goals
                have ho9 := HO9.out
                have hm9 : m9 = z + 1 := by
                  rcases ho9.2 with ⟨_, e2⟩ | ⟨g1, cap, cur, e, _⟩
                  · simp at e2
                  · injection e
                have HM9 := Lib.hid hm9
                have ho6 : w9.ownsRow w.heap.size 25 1 (.slice (some ⟨g5, 0, none⟩) (z + 1) k5) (z + 1) (u64s (acc.map Prod.fst) ++ [.int .u64 (Y : Int)]) := (Fr.of_grown (v' := .slice a7 z c7) HG9.out (fun k hk => .inl hk)).own (by (repeat (first | with_reducible exact HO65.out | with_reducible refine World.ownsRow.alloc ?_ _ | with_reducible refine row_drew ?_))) (row_row HO65.out HO75.out (by decide))
                have HO6F := Lib.hid ho6
                clear ho9 hm9 ho6
                go_wp2_with fail
                go_roundg k
                case measure => omega
                case rel =>
                  have he := HE.out
                  have o7 := HO9.out
                  rw [HM9.out] at o7
                  have e1 : (acc ++ [(Y, R)]).length = z + 1 := by rw [List.length_append, HZ.out]; rfl
                  refine ⟨i + 1, j + 1, acc ++ [(Y, R)], by go_num, by go_num, by rw [← HPN.out]; omega, by rw [← HQN.out]; omega, by rw [← HPN.out, ← HQN.out]; omega, ⟨some ⟨g5, 0, none⟩, k5, p9, c9, by rw [e1], by rw [e1, HM9.out], ?_, ?_⟩, ?_, by rw [e1]; omega, by first | exact HB9.out | exact HB9.out.drew⟩
                  · rw [e1, List.map_append, u64s_append]; exact HO6F.out
                  · rw [e1, List.map_append, u64s_append]; exact o7
                  · rw [List.append_assoc, ← he]; exact HAND.out
end Go.Proofs.YtgifbdjifmoafaaGreat
