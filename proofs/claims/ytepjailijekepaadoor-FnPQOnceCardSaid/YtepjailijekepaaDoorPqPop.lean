/- Walks of package queue: pop. -/
import Derived.Test.YtepjailijekepaaDoorPqPush
namespace Go.Proofs.YtepjailijekepaaDoor
set_option linter.unusedVariables false
open Go.RowKit
open Pqm

theorem pop_int {a b : Int} (h : a = b) : Value.int .i64 a = .int .i64 b := by rw [h]

def PopLoop (n b m g c : Nat) (L : List It) (gone dup : Bool) (w : World) (k : Nat) (idx cl cr : Value) (wr : World) : Prop :=
  ∃ (i : Nat) (hs : List It), idx = .int .i64 (i : Int) ∧ cl = .int .i64 (2 * (i : Int) + 1) ∧ cr = .int .i64 (2 * (i : Int) + 2) ∧ n ≤ k + i ∧ hs.length = n ∧ Down hs i ∧ hs.Perm (cut L) ∧ Pq wr b m (some ⟨g, 0, none⟩) c hs gone dup ∧ PqFr b b (some g) (some g) w wr ∧ i ≤ n

theorem Pq.c0 {w : World} {b m : Nat} {p : Option Addr} {c n : Nat} {L : List It} {gone dup : Bool} (H : Pq w b m p c L gone dup) (hn : L.length = n) : w.cell? ⟨b, 0, none⟩ = some (.slice p n c) := by subst hn; exact H.blk.cell 0 rfl
theorem Pq.ci {w : World} {b m g c : Nat} {L : List It} {gone dup : Bool} (H : Pq w b m (some ⟨g, 0, none⟩) c L gone dup) (i n : Nat) (x1 x2 : Int) (hn : L.length = n) (hi : i < n) (hx : L.getD i dI = (x1, x2)) : w.cell? ⟨g, i, none⟩ = some (.iface 55 (.agg #[.int .i64 x1, .int .i64 x2])) := by
  have := H.cell i (by omega)
  rw [hx] at this
  exact this

theorem ordI_cases (a b : Int) : (a < b ∧ ordI a b = -1) ∨ (a = b ∧ ordI a b = 0) ∨ (b < a ∧ ordI a b = 1) := by
  unfold ordI
  by_cases h1 : a < b
  · exact .inl ⟨h1, if_pos h1⟩
  · by_cases h2 : b < a
    · exact .inr (.inr ⟨h2, by rw [if_neg h1, if_pos h2]⟩)
    · exact .inr (.inl ⟨by omega, by rw [if_neg h1, if_neg h2]⟩)

theorem Pq.popped {w : World} {b m g c : Nat} {S : List It} {gone dup : Bool} {n : Nat} (H : Pq w b m (some ⟨g, 0, none⟩) c S gone dup) (hn : S.length = n + 1) :
    Pq ((w.setCell ⟨g, n, none⟩ .nilIface).setCell ⟨b, 0, none⟩ (.slice (some ⟨g, 0, none⟩) n c)) b m (some ⟨g, 0, none⟩) c (S.take n) gone dup ∧
      PqFr b b (some g) (some g) w ((w.setCell ⟨g, n, none⟩ .nilIface).setCell ⟨b, 0, none⟩ (.slice (some ⟨g, 0, none⟩) n c)) := by
  obtain ⟨hgb⟩ : Nonempty (g ≠ b) := by
    rcases pq_g H with ⟨e, _⟩ | ⟨g', e, h2, _⟩
    · cases e
    · injection e with e; injection e with e; subst e; exact ⟨h2⟩
  have s1 := H.own.stored n .nilIface
  have hl : (S.take n).length = n := by rw [List.length_take]; omega
  have e : (itvs S).set n .nilIface = itvs (S.take n) ++ [.nilIface] := by
    have h1 := take_snoc_getD S n hn
    have h2 : itvs S = itvs (S.take n) ++ [itv (S.getD n dI)] := by
      rw [show itvs S = itvs (S.take n ++ [S.getD n dI]) from congrArg itvs h1, itvs_app]; rfl
    rw [h2, List.set_append_right _ _ (by rw [itvs_len, hl]; exact Nat.le_refl _), itvs_len, hl, Nat.sub_self]
    rfl
  have s2 := s1.1
  rw [e, hn] at s2
  have s3 := ownsRow_pop (n := n) (by rw [itvs_len, hl]; omega) s2
  refine ⟨⟨?_, ?_⟩, (PqFr.of_grown s1.2 (fun k e => .inl e)).trans (PqFr.store b b _ _ (a := ⟨b, 0, none⟩) (.inl rfl) _)⟩
  · rw [hl]
    have h1 := H.blk.other (a := ⟨g, n, none⟩) (fun e => hgb e.symm) .nilIface
    have h2 := h1.set 0 (.slice (some ⟨g, 0, none⟩) n c)
    simpa using h2
  · rw [hl]
    exact ownsRow_setCell_other s3 (a := ⟨b, 0, none⟩) (by simpa [Value.ownBlock] using hgb) _

set_option maxRecDepth 100000 in
set_option maxHeartbeats 2000000 in
theorem pop_any (b m g c : Nat) (L : List It) (gone dup : Bool) (w : World) (H : Pq w b m (some ⟨g, 0, none⟩) c L gone dup) (hh : Heap L) (h0 : 0 < L.length) (h9 : L.length ≤ 100000) :
    Calls Tryd.prog 29 #[.pointer (some ⟨b, 0, none⟩)] w fun e w' => e = .returned (itv (L.getD 0 dI)) ∧
      ∃ L', Pq w' b m (some ⟨g, 0, none⟩) c L' gone dup ∧ Heap L' ∧ (L.getD 0 dI :: L').Perm L ∧ PqFr b b (some g) (some g) w w' := by
  obtain ⟨n, hn⟩ : ∃ n, L.length = n + 1 := ⟨L.length - 1, by omega⟩
  have c0 : w.cell? ⟨b, 0, none⟩ = some (.slice (some ⟨g, 0, none⟩) (n + 1) c) := by have := H.blk.cell 0 rfl; rw [hn] at this; exact this
  have hcut := cut_start hh
  have hcp := cut_perm h0
  have HCP := Lib.hid hcp
  have HCUT := Lib.hid hcut
  have HN := Lib.hid hn
  have HS := Lib.hid (swap_any b m g c L gone dup n 0 w H (by omega) h0)
  obtain ⟨⟨x1, x2⟩, hx⟩ : ∃ X, L.getD 0 dI = X := ⟨_, rfl⟩
  rw [hx]
  have HX := Lib.hid hx
  have hn9 : n < 100000 := by omega
  clear hcut hcp hn H hh h0 h9 hx
  go_enter Tryd.func29, Tryd.ntmps29
  go_wp2_with fail
  refine HS.out.mono ?_
  rintro e w1 ⟨rfl, hq1, hf1⟩
  have HF1 := Lib.hid hf1
  have d0 : w1.cell? ⟨b, 0, none⟩ = some (.slice (some ⟨g, 0, none⟩) (n + 1) c) := by have := hq1.blk.cell 0 rfl; rw [swp_len, HN.out] at this; exact this
  have fb := hq1.blk.free 0
  have d1 : w1.cell? ⟨g, n, none⟩ = some (.iface 55 (.agg #[.int .i64 x1, .int .i64 x2])) := by
    have := hq1.cell n (by rw [swp_len, HN.out]; omega)
    rw [swp_at L n 0 n (by rw [HN.out]; omega) (by rw [HN.out]; omega)] at this
    have e : (if 0 = n then L.getD n dI else if n = n then L.getD 0 dI else L.getD n dI) = (x1, x2) := by
      by_cases e : 0 = n
      · subst e; simpa using HX.out
      · rw [if_neg e, if_pos rfl]; exact HX.out
    rw [e] at this
    exact this
  have fg := hq1.own.frozenAt n
  have hpop := hq1.popped (n := n) (by rw [swp_len]; exact HN.out)
  have hnc : n + 1 ≤ c ∧ c ≤ maxLen := by
    rcases pq_g hq1 with ⟨e, _⟩ | ⟨g', e, _, _, h3, h4⟩
    · cases e
    · rw [swp_len, HN.out] at h3; exact ⟨h3, h4⟩
  have hgb : b ≠ g := by
    rcases pq_g hq1 with ⟨e, _⟩ | ⟨g', e, h2, _⟩
    · cases e
    · injection e with e; injection e with e; subst e; exact Ne.symm h2
  obtain ⟨hc1, hc2⟩ := hnc
  unfold maxLen at hc2
  have HPOP := Lib.hid hpop
  clear c0 hq1 hf1 hpop
  go_wp2_with fail
  go_region
  go_wp2_with fail
  go_loopg [5, 6, 7] n (fun k idx cl cr wr => PopLoop n b m g c L gone dup w k idx cl cr wr)
  case atStart =>
    have e : (swp L n 0).take n = cut L := by unfold cut; rw [HN.out]; rfl
    have h1 := HPOP.out.1
    rw [e] at h1
    refine ⟨0, cut L, rfl, by simp, by simp, by omega, by rw [cut_len, HN.out]; rfl, HCUT.out, List.Perm.refl _, ?_, ?_, Nat.zero_le _⟩
    · first | exact h1 | exact h1.drew
    · first | exact HF1.out.trans HPOP.out.2 | exact (HF1.out.trans HPOP.out.2).drew
  case round =>
    obtain ⟨i, hs, rfl, rfl, rfl, hik, hlen, hdn, hperm, hpq, hfr, hin⟩ := hrel
    have e0 : wr.cell? ⟨b, 0, none⟩ = some (.slice (some ⟨g, 0, none⟩) n c) := by have := hpq.blk.cell 0 rfl; rw [hlen] at this; exact this
    have HD := Lib.hid hdn
    have HP := Lib.hid hperm
    have HQ := Lib.hid hpq
    have HF := Lib.hid hfr
    have HL := Lib.hid hlen
    have hinv := meth_cmp
    clear hdn hperm hfr d0 d1 fb fg
    by_cases hl : 2 * i + 1 < n
    · obtain ⟨⟨y1, y2⟩, hY⟩ : ∃ Y, hs.getD i dI = Y := ⟨_, rfl⟩
      obtain ⟨⟨l1, l2⟩, hLx⟩ : ∃ Y, hs.getD (2 * i + 1) dI = Y := ⟨_, rfl⟩
      have e1 := hpq.cell i (by omega)
      have e2 := hpq.cell (2 * i + 1) (by omega)
      rw [hY] at e1
      rw [hLx] at e2
      have e1' : wr.cell? ⟨g, i, none⟩ = some (.iface 55 (.agg #[.int .i64 y1, .int .i64 y2])) := e1
      have e2' : wr.cell? ⟨g, 2 * i + 1, none⟩ = some (.iface 55 (.agg #[.int .i64 l1, .int .i64 l2])) := e2
      have HY := Lib.hid hY
      have HLX := Lib.hid hLx
      have hlc : 2 * (i : Int) + 1 < (n : Int) := by omega
      have htn : (2 * (i : Int) + 1).toNat = 2 * i + 1 := by omega
      have hlz : 0 ≤ 2 * (i : Int) + 1 := by omega
      have hii : i < n := by omega
      have hii2 : (i : Int) < (n : Int) := by omega
      clear e1 e2 hY hLx
      by_cases hr : 2 * i + 2 < n
      · obtain ⟨⟨r1, r2⟩, hRx⟩ : ∃ Y, hs.getD (2 * i + 2) dI = Y := ⟨_, rfl⟩
        have e3 := hpq.cell (2 * i + 2) (by omega)
        rw [hRx] at e3
        have e3' : wr.cell? ⟨g, 2 * i + 2, none⟩ = some (.iface 55 (.agg #[.int .i64 r1, .int .i64 r2])) := e3
        have HRX := Lib.hid hRx
        have htr : (2 * (i : Int) + 2).toNat = 2 * i + 2 := by omega
        have hrc : decide (2 * (i : Int) + 2 < (n : Int)) = true := by simp; omega
        have hrc2 : 2 * (i : Int) + 2 < (n : Int) := by omega
        have hrz : 0 ≤ 2 * (i : Int) + 2 := by omega
        have C1 : Hid (∀ wx : World, Calls Tryd.prog 45 #[.agg #[.int .i64 r1, .int .i64 r2], .iface 55 (.agg #[.int .i64 l1, .int .i64 l2])] wx fun e w' => e = .returned (.int .i64 (ordI r1 l1)) ∧ Below wx.heap.size wx w') := Lib.hid (fun wx => cmp_any (r1, r2) (l1, l2) wx)
        clear e3 hRx hpq
        rcases ordI_cases r1 l1 with ⟨hcm, hO⟩ | ⟨hcm, hO⟩ | ⟨hcm, hO⟩
        all_goals
          rw [hO] at C1
          have HCM := Lib.hid hcm
          clear hO hcm
          go_wp2_with fail
          go_region_held3 (fun w' => w'.cell? ⟨b, 0, none⟩ = some (.slice (some ⟨g, 0, none⟩) n c) ∧ w'.cell? ⟨g, 2 * i + 1, none⟩ = some (.iface 55 (.agg #[.int .i64 l1, .int .i64 l2])) ∧ w'.cell? ⟨g, 2 * i + 2, none⟩ = some (.iface 55 (.agg #[.int .i64 r1, .int .i64 r2])))
            ((first | go_keep | exact ⟨by assumption, by assumption, by assumption⟩))
            ((go_at_call 45; (with_reducible refine Calls.mono (C1.out _) ?_); rintro e wE ⟨rfl, hbE⟩; have hqE := HQ.out.drew.below hbE; have HBE : Hid (PqFr b b (some g) (some g) wr wE) := Lib.hid ((PqFr.of_below (Below.refl _ wr).drew).trans (PqFr.of_below hbE)); have t0 := hqE.c0 HL.out; have t1 := hqE.ci (2 * i + 1) n l1 l2 HL.out (by omega) HLX.out; have t2 := hqE.ci (2 * i + 2) n r1 r2 HL.out (by omega) HRX.out; have HQE := Lib.hid hqE; clear hbE hqE))
        · go_wp2_with fail
          have HWE := Lib.hid (HF.out.trans HBE.out)
          clear e0 e1' e2' e3' C1
          have HCH : Hid ((0 < 2 * i + 2 ∧ 2 * i + 2 < n ∧ par (2 * i + 2) = i) ∧ ∀ j, 0 < j → j < hs.length → par j = i → key hs (2 * i + 2) ≤ key hs j) := Lib.hid (by
            refine ⟨⟨by omega, by omega, by unfold par; omega⟩, fun j hj0 hj hpj => ?_⟩
            have hj2 : j = 2 * i + 1 ∨ j = 2 * i + 2 := by unfold par at hpj; omega
            have hcm := HCM.out
            have hk1 : key hs (2 * i + 1) = l1 := by unfold key; rw [HLX.out]
            have hk2 : key hs (2 * i + 2) = r1 := by unfold key; rw [HRX.out]
            rcases hj2 with rfl | rfl <;> omega)
          have C2 : Hid (∀ wx : World, Calls Tryd.prog 45 #[.agg #[.int .i64 r1, .int .i64 r2], .iface 55 (.agg #[.int .i64 y1, .int .i64 y2])] wx fun e w' => e = .returned (.int .i64 (ordI r1 y1)) ∧ Below wx.heap.size wx w') := Lib.hid (fun wx => cmp_any (r1, r2) (y1, y2) wx)
          have t0 := HQE.out.c0 HL.out
          have t1 := HQE.out.ci (2 * i + 2) n r1 r2 HL.out (by omega) HRX.out
          have t2 := HQE.out.ci i n y1 y2 HL.out (by omega) HY.out
          rcases ordI_cases r1 y1 with ⟨hcm2, hO2⟩ | hO2
          · rw [hO2] at C2
            have HCM2 := Lib.hid hcm2
            clear hO2 hcm2
            go_wp2_with fail
            go_region_held3 (fun w' => w'.cell? ⟨b, 0, none⟩ = some (.slice (some ⟨g, 0, none⟩) n c) ∧ w'.cell? ⟨g, 2 * i + 2, none⟩ = some (.iface 55 (.agg #[.int .i64 r1, .int .i64 r2])) ∧ w'.cell? ⟨g, i, none⟩ = some (.iface 55 (.agg #[.int .i64 y1, .int .i64 y2])))
              ((first | go_keep | exact ⟨by assumption, by assumption, by assumption⟩))
              ((go_at_call 45; (with_reducible refine Calls.mono (C2.out _) ?_); rintro e wF ⟨rfl, hbF⟩; have hqF := HQE.out.drew.below hbF; have HFF : Hid (PqFr b b (some g) (some g) w wF) := Lib.hid ((HWE.out.drew).trans (PqFr.of_below hbF)); have u0 := hqF.c0 HL.out; have u1 := hqF.ci (2 * i + 2) n r1 r2 HL.out (by have := HCH.out.1.2.1; omega) HRX.out; have u2 := hqF.ci i n y1 y2 HL.out (by have := HCH.out.1.2.1; omega) HY.out; have HQF := Lib.hid hqF; clear hbF hqF))
            all_goals
              have HSW : Hid (Calls Tryd.prog 28 #[.pointer (some ⟨b, 0, none⟩), .int .i64 (i : Int), .int .i64 (2 * (i : Int) + 2)] wF fun e w' => e = .returned (.tuple #[]) ∧ Pq w' b m (some ⟨g, 0, none⟩) c (swp hs i (2 * i + 2)) gone dup ∧ PqFr b b (some g) (some g) wF w') := Lib.hid (swap_any b m g c hs gone dup i (2 * i + 2) wF HQF.out (by rw [HL.out]; omega) (by rw [HL.out]; exact HCH.out.1.2.1))
              go_wp2_with fail
              refine HSW.out.mono ?_
              rintro e wG ⟨rfl, hqG, hfG⟩
              have HQG := Lib.hid hqG
              have HFG := Lib.hid (HFF.out.trans hfG)
              clear hqG hfG
              go_wp2_with fail
              cases gk with
              | zero => omega
              | succ gk =>
                go_roundg gk
                case measure => omega
                case rel =>
                  have hk1 : key hs (2 * i + 2) = r1 := by unfold key; rw [HRX.out]
                  have hk2 : key hs i = y1 := by unfold key; rw [HY.out]
                  have hcm := HCM2.out
                  obtain ⟨⟨q0, q1, q2⟩, q3⟩ := HCH.out
                  have hln := HL.out
                  refine ⟨2 * i + 2, swp hs i (2 * i + 2), by go_num, pop_int (by push_cast; omega), pop_int (by push_cast; omega), by omega, by rw [swp_len]; exact hln, down_step HD.out q0 (by omega) q2 (by omega) q3, (swp_perm hs i (2 * i + 2) (by omega) (by omega)).trans HP.out, HQG.out, HFG.out, by omega⟩
          · have hO3 : ordI r1 y1 = 0 ∨ ordI r1 y1 = 1 := by rcases hO2 with ⟨_, h⟩ | ⟨_, h⟩; exact .inl h; exact .inr h
            have HCM2 : Hid (y1 ≤ r1) := Lib.hid (by rcases hO2 with ⟨h, _⟩ | ⟨h, _⟩ <;> omega)
            clear hO2
            rcases hO3 with hO2 | hO2
            all_goals
              rw [hO2] at C2
              clear hO2
              go_wp2_with fail
              go_region_held3 (fun w' => w'.cell? ⟨b, 0, none⟩ = some (.slice (some ⟨g, 0, none⟩) n c) ∧ w'.cell? ⟨g, 2 * i + 2, none⟩ = some (.iface 55 (.agg #[.int .i64 r1, .int .i64 r2])) ∧ w'.cell? ⟨g, i, none⟩ = some (.iface 55 (.agg #[.int .i64 y1, .int .i64 y2])))
                ((first | go_keep | exact ⟨by assumption, by assumption, by assumption⟩))
                ((go_at_call 45; (with_reducible refine Calls.mono (C2.out _) ?_); rintro e wF ⟨rfl, hbF⟩; have hqF := HQE.out.drew.below hbF; have HFF : Hid (PqFr b b (some g) (some g) w wF) := Lib.hid ((HWE.out.drew).trans (PqFr.of_below hbF)); have u0 := hqF.c0 HL.out; have u1 := hqF.ci (2 * i + 2) n r1 r2 HL.out (by have := HCH.out.1.2.1; omega) HRX.out; have u2 := hqF.ci i n y1 y2 HL.out (by have := HCH.out.1.2.1; omega) HY.out; have HQF := Lib.hid hqF; clear hbF hqF))
            all_goals
              go_wp2_with fail
              go_ret
              have hk1 : key hs (2 * i + 2) = r1 := by unfold key; rw [HRX.out]
              have hk2 : key hs i = y1 := by unfold key; rw [HY.out]
              have hcm := HCM2.out
              obtain ⟨⟨q0, q1, q2⟩, q3⟩ := HCH.out
              have hcp := HCP.out
              rw [HX.out] at hcp
              exact ⟨rfl, hs, HQF.out, down_end HD.out (fun j h1 h2 h3 => by have := q3 j h1 h2 h3; omega), (HP.out.cons _).trans hcp, HFF.out⟩
        · go_wp2_with fail
          have HWE := Lib.hid (HF.out.trans HBE.out)
          clear e0 e1' e2' e3' C1
          have HCH : Hid ((0 < 2 * i + 1 ∧ 2 * i + 1 < n ∧ par (2 * i + 1) = i) ∧ ∀ j, 0 < j → j < hs.length → par j = i → key hs (2 * i + 1) ≤ key hs j) := Lib.hid (by
            refine ⟨⟨by omega, by omega, by unfold par; omega⟩, fun j hj0 hj hpj => ?_⟩
            have hj2 : j = 2 * i + 1 ∨ j = 2 * i + 2 := by unfold par at hpj; omega
            have hcm := HCM.out
            have hk1 : key hs (2 * i + 1) = l1 := by unfold key; rw [HLX.out]
            have hk2 : key hs (2 * i + 2) = r1 := by unfold key; rw [HRX.out]
            rcases hj2 with rfl | rfl <;> omega)
          have C2 : Hid (∀ wx : World, Calls Tryd.prog 45 #[.agg #[.int .i64 l1, .int .i64 l2], .iface 55 (.agg #[.int .i64 y1, .int .i64 y2])] wx fun e w' => e = .returned (.int .i64 (ordI l1 y1)) ∧ Below wx.heap.size wx w') := Lib.hid (fun wx => cmp_any (l1, l2) (y1, y2) wx)
          have t0 := HQE.out.c0 HL.out
          have t1 := HQE.out.ci (2 * i + 1) n l1 l2 HL.out (by omega) HLX.out
          have t2 := HQE.out.ci i n y1 y2 HL.out (by omega) HY.out
          rcases ordI_cases l1 y1 with ⟨hcm2, hO2⟩ | hO2
          · rw [hO2] at C2
            have HCM2 := Lib.hid hcm2
            clear hO2 hcm2
            go_wp2_with fail
            go_region_held3 (fun w' => w'.cell? ⟨b, 0, none⟩ = some (.slice (some ⟨g, 0, none⟩) n c) ∧ w'.cell? ⟨g, 2 * i + 1, none⟩ = some (.iface 55 (.agg #[.int .i64 l1, .int .i64 l2])) ∧ w'.cell? ⟨g, i, none⟩ = some (.iface 55 (.agg #[.int .i64 y1, .int .i64 y2])))
              ((first | go_keep | exact ⟨by assumption, by assumption, by assumption⟩))
              ((go_at_call 45; (with_reducible refine Calls.mono (C2.out _) ?_); rintro e wF ⟨rfl, hbF⟩; have hqF := HQE.out.drew.below hbF; have HFF : Hid (PqFr b b (some g) (some g) w wF) := Lib.hid ((HWE.out.drew).trans (PqFr.of_below hbF)); have u0 := hqF.c0 HL.out; have u1 := hqF.ci (2 * i + 1) n l1 l2 HL.out (by have := HCH.out.1.2.1; omega) HLX.out; have u2 := hqF.ci i n y1 y2 HL.out (by have := HCH.out.1.2.1; omega) HY.out; have HQF := Lib.hid hqF; clear hbF hqF))
            all_goals
              have HSW : Hid (Calls Tryd.prog 28 #[.pointer (some ⟨b, 0, none⟩), .int .i64 (i : Int), .int .i64 (2 * (i : Int) + 1)] wF fun e w' => e = .returned (.tuple #[]) ∧ Pq w' b m (some ⟨g, 0, none⟩) c (swp hs i (2 * i + 1)) gone dup ∧ PqFr b b (some g) (some g) wF w') := Lib.hid (swap_any b m g c hs gone dup i (2 * i + 1) wF HQF.out (by rw [HL.out]; omega) (by rw [HL.out]; exact HCH.out.1.2.1))
              go_wp2_with fail
              refine HSW.out.mono ?_
              rintro e wG ⟨rfl, hqG, hfG⟩
              have HQG := Lib.hid hqG
              have HFG := Lib.hid (HFF.out.trans hfG)
              clear hqG hfG
              go_wp2_with fail
              cases gk with
              | zero => omega
              | succ gk =>
                go_roundg gk
                case measure => omega
                case rel =>
                  have hk1 : key hs (2 * i + 1) = l1 := by unfold key; rw [HLX.out]
                  have hk2 : key hs i = y1 := by unfold key; rw [HY.out]
                  have hcm := HCM2.out
                  obtain ⟨⟨q0, q1, q2⟩, q3⟩ := HCH.out
                  have hln := HL.out
                  refine ⟨2 * i + 1, swp hs i (2 * i + 1), by go_num, pop_int (by push_cast; omega), pop_int (by push_cast; omega), by omega, by rw [swp_len]; exact hln, down_step HD.out q0 (by omega) q2 (by omega) q3, (swp_perm hs i (2 * i + 1) (by omega) (by omega)).trans HP.out, HQG.out, HFG.out, by omega⟩
          · have hO3 : ordI l1 y1 = 0 ∨ ordI l1 y1 = 1 := by rcases hO2 with ⟨_, h⟩ | ⟨_, h⟩; exact .inl h; exact .inr h
            have HCM2 : Hid (y1 ≤ l1) := Lib.hid (by rcases hO2 with ⟨h, _⟩ | ⟨h, _⟩ <;> omega)
            clear hO2
            rcases hO3 with hO2 | hO2
            all_goals
              rw [hO2] at C2
              clear hO2
              go_wp2_with fail
              go_region_held3 (fun w' => w'.cell? ⟨b, 0, none⟩ = some (.slice (some ⟨g, 0, none⟩) n c) ∧ w'.cell? ⟨g, 2 * i + 1, none⟩ = some (.iface 55 (.agg #[.int .i64 l1, .int .i64 l2])) ∧ w'.cell? ⟨g, i, none⟩ = some (.iface 55 (.agg #[.int .i64 y1, .int .i64 y2])))
                ((first | go_keep | exact ⟨by assumption, by assumption, by assumption⟩))
                ((go_at_call 45; (with_reducible refine Calls.mono (C2.out _) ?_); rintro e wF ⟨rfl, hbF⟩; have hqF := HQE.out.drew.below hbF; have HFF : Hid (PqFr b b (some g) (some g) w wF) := Lib.hid ((HWE.out.drew).trans (PqFr.of_below hbF)); have u0 := hqF.c0 HL.out; have u1 := hqF.ci (2 * i + 1) n l1 l2 HL.out (by have := HCH.out.1.2.1; omega) HLX.out; have u2 := hqF.ci i n y1 y2 HL.out (by have := HCH.out.1.2.1; omega) HY.out; have HQF := Lib.hid hqF; clear hbF hqF))
            all_goals
              go_wp2_with fail
              go_ret
              have hk1 : key hs (2 * i + 1) = l1 := by unfold key; rw [HLX.out]
              have hk2 : key hs i = y1 := by unfold key; rw [HY.out]
              have hcm := HCM2.out
              obtain ⟨⟨q0, q1, q2⟩, q3⟩ := HCH.out
              have hcp := HCP.out
              rw [HX.out] at hcp
              exact ⟨rfl, hs, HQF.out, down_end HD.out (fun j h1 h2 h3 => by have := q3 j h1 h2 h3; omega), (HP.out.cons _).trans hcp, HFF.out⟩
        · go_wp2_with fail
          have HWE := Lib.hid (HF.out.trans HBE.out)
          clear e0 e1' e2' e3' C1
          have HCH : Hid ((0 < 2 * i + 1 ∧ 2 * i + 1 < n ∧ par (2 * i + 1) = i) ∧ ∀ j, 0 < j → j < hs.length → par j = i → key hs (2 * i + 1) ≤ key hs j) := Lib.hid (by
            refine ⟨⟨by omega, by omega, by unfold par; omega⟩, fun j hj0 hj hpj => ?_⟩
            have hj2 : j = 2 * i + 1 ∨ j = 2 * i + 2 := by unfold par at hpj; omega
            have hcm := HCM.out
            have hk1 : key hs (2 * i + 1) = l1 := by unfold key; rw [HLX.out]
            have hk2 : key hs (2 * i + 2) = r1 := by unfold key; rw [HRX.out]
            rcases hj2 with rfl | rfl <;> omega)
          have C2 : Hid (∀ wx : World, Calls Tryd.prog 45 #[.agg #[.int .i64 l1, .int .i64 l2], .iface 55 (.agg #[.int .i64 y1, .int .i64 y2])] wx fun e w' => e = .returned (.int .i64 (ordI l1 y1)) ∧ Below wx.heap.size wx w') := Lib.hid (fun wx => cmp_any (l1, l2) (y1, y2) wx)
          have t0 := HQE.out.c0 HL.out
          have t1 := HQE.out.ci (2 * i + 1) n l1 l2 HL.out (by omega) HLX.out
          have t2 := HQE.out.ci i n y1 y2 HL.out (by omega) HY.out
          rcases ordI_cases l1 y1 with ⟨hcm2, hO2⟩ | hO2
          · rw [hO2] at C2
            have HCM2 := Lib.hid hcm2
            clear hO2 hcm2
            go_wp2_with fail
            go_region_held3 (fun w' => w'.cell? ⟨b, 0, none⟩ = some (.slice (some ⟨g, 0, none⟩) n c) ∧ w'.cell? ⟨g, 2 * i + 1, none⟩ = some (.iface 55 (.agg #[.int .i64 l1, .int .i64 l2])) ∧ w'.cell? ⟨g, i, none⟩ = some (.iface 55 (.agg #[.int .i64 y1, .int .i64 y2])))
              ((first | go_keep | exact ⟨by assumption, by assumption, by assumption⟩))
              ((go_at_call 45; (with_reducible refine Calls.mono (C2.out _) ?_); rintro e wF ⟨rfl, hbF⟩; have hqF := HQE.out.drew.below hbF; have HFF : Hid (PqFr b b (some g) (some g) w wF) := Lib.hid ((HWE.out.drew).trans (PqFr.of_below hbF)); have u0 := hqF.c0 HL.out; have u1 := hqF.ci (2 * i + 1) n l1 l2 HL.out (by have := HCH.out.1.2.1; omega) HLX.out; have u2 := hqF.ci i n y1 y2 HL.out (by have := HCH.out.1.2.1; omega) HY.out; have HQF := Lib.hid hqF; clear hbF hqF))
            all_goals
              have HSW : Hid (Calls Tryd.prog 28 #[.pointer (some ⟨b, 0, none⟩), .int .i64 (i : Int), .int .i64 (2 * (i : Int) + 1)] wF fun e w' => e = .returned (.tuple #[]) ∧ Pq w' b m (some ⟨g, 0, none⟩) c (swp hs i (2 * i + 1)) gone dup ∧ PqFr b b (some g) (some g) wF w') := Lib.hid (swap_any b m g c hs gone dup i (2 * i + 1) wF HQF.out (by rw [HL.out]; omega) (by rw [HL.out]; exact HCH.out.1.2.1))
              go_wp2_with fail
              refine HSW.out.mono ?_
              rintro e wG ⟨rfl, hqG, hfG⟩
              have HQG := Lib.hid hqG
              have HFG := Lib.hid (HFF.out.trans hfG)
              clear hqG hfG
              go_wp2_with fail
              cases gk with
              | zero => omega
              | succ gk =>
                go_roundg gk
                case measure => omega
                case rel =>
                  have hk1 : key hs (2 * i + 1) = l1 := by unfold key; rw [HLX.out]
                  have hk2 : key hs i = y1 := by unfold key; rw [HY.out]
                  have hcm := HCM2.out
                  obtain ⟨⟨q0, q1, q2⟩, q3⟩ := HCH.out
                  have hln := HL.out
                  refine ⟨2 * i + 1, swp hs i (2 * i + 1), by go_num, pop_int (by push_cast; omega), pop_int (by push_cast; omega), by omega, by rw [swp_len]; exact hln, down_step HD.out q0 (by omega) q2 (by omega) q3, (swp_perm hs i (2 * i + 1) (by omega) (by omega)).trans HP.out, HQG.out, HFG.out, by omega⟩
          · have hO3 : ordI l1 y1 = 0 ∨ ordI l1 y1 = 1 := by rcases hO2 with ⟨_, h⟩ | ⟨_, h⟩; exact .inl h; exact .inr h
            have HCM2 : Hid (y1 ≤ l1) := Lib.hid (by rcases hO2 with ⟨h, _⟩ | ⟨h, _⟩ <;> omega)
            clear hO2
            rcases hO3 with hO2 | hO2
            all_goals
              rw [hO2] at C2
              clear hO2
              go_wp2_with fail
              go_region_held3 (fun w' => w'.cell? ⟨b, 0, none⟩ = some (.slice (some ⟨g, 0, none⟩) n c) ∧ w'.cell? ⟨g, 2 * i + 1, none⟩ = some (.iface 55 (.agg #[.int .i64 l1, .int .i64 l2])) ∧ w'.cell? ⟨g, i, none⟩ = some (.iface 55 (.agg #[.int .i64 y1, .int .i64 y2])))
                ((first | go_keep | exact ⟨by assumption, by assumption, by assumption⟩))
                ((go_at_call 45; (with_reducible refine Calls.mono (C2.out _) ?_); rintro e wF ⟨rfl, hbF⟩; have hqF := HQE.out.drew.below hbF; have HFF : Hid (PqFr b b (some g) (some g) w wF) := Lib.hid ((HWE.out.drew).trans (PqFr.of_below hbF)); have u0 := hqF.c0 HL.out; have u1 := hqF.ci (2 * i + 1) n l1 l2 HL.out (by have := HCH.out.1.2.1; omega) HLX.out; have u2 := hqF.ci i n y1 y2 HL.out (by have := HCH.out.1.2.1; omega) HY.out; have HQF := Lib.hid hqF; clear hbF hqF))
            all_goals
              go_wp2_with fail
              go_ret
              have hk1 : key hs (2 * i + 1) = l1 := by unfold key; rw [HLX.out]
              have hk2 : key hs i = y1 := by unfold key; rw [HY.out]
              have hcm := HCM2.out
              obtain ⟨⟨q0, q1, q2⟩, q3⟩ := HCH.out
              have hcp := HCP.out
              rw [HX.out] at hcp
              exact ⟨rfl, hs, HQF.out, down_end HD.out (fun j h1 h2 h3 => by have := q3 j h1 h2 h3; omega), (HP.out.cons _).trans hcp, HFF.out⟩
      · have hrc : decide (2 * (i : Int) + 2 < (n : Int)) = false := by simp; omega
        have hrc2 : ¬ 2 * (i : Int) + 2 < (n : Int) := by omega
        have hrc3 : (n : Int) ≤ 2 * (i : Int) + 2 := by omega
        clear hpq
        go_wp2_with fail
        go_quiet (fail)
        obtain ⟨wE, hwE⟩ : ∃ wE, wE = wr.drewN nq := ⟨_, rfl⟩
        have HQE : Hid (Pq wE b m (some ⟨g, 0, none⟩) c hs gone dup) := Lib.hid (by rw [hwE]; exact HQ.out.below (below_drewN (Below.refl _ _) _))
        have HWE : Hid (PqFr b b (some g) (some g) w wE) := Lib.hid (by rw [hwE]; exact HF.out.trans (PqFr.of_below (below_drewN (Below.refl _ _) _)))
        rw [← hwE]
        clear hwE e0 e1' e2'
        have HCH : Hid ((0 < 2 * i + 1 ∧ 2 * i + 1 < n ∧ par (2 * i + 1) = i) ∧ ∀ j, 0 < j → j < hs.length → par j = i → key hs (2 * i + 1) ≤ key hs j) := Lib.hid (by
          refine ⟨⟨by omega, by omega, by unfold par; omega⟩, fun j hj0 hj hpj => ?_⟩
          have hln := HL.out
          have hj2 : j = 2 * i + 1 := by unfold par at hpj; omega
          subst hj2
          exact Int.le_refl _)
        have C2 : Hid (∀ wx : World, Calls Tryd.prog 45 #[.agg #[.int .i64 l1, .int .i64 l2], .iface 55 (.agg #[.int .i64 y1, .int .i64 y2])] wx fun e w' => e = .returned (.int .i64 (ordI l1 y1)) ∧ Below wx.heap.size wx w') := Lib.hid (fun wx => cmp_any (l1, l2) (y1, y2) wx)
        have t0 := HQE.out.c0 HL.out
        have t1 := HQE.out.ci (2 * i + 1) n l1 l2 HL.out (by omega) HLX.out
        have t2 := HQE.out.ci i n y1 y2 HL.out (by omega) HY.out
        rcases ordI_cases l1 y1 with ⟨hcm2, hO2⟩ | hO2
        · rw [hO2] at C2
          have HCM2 := Lib.hid hcm2
          clear hO2 hcm2
          go_wp2_with fail
          go_region_held3 (fun w' => w'.cell? ⟨b, 0, none⟩ = some (.slice (some ⟨g, 0, none⟩) n c) ∧ w'.cell? ⟨g, 2 * i + 1, none⟩ = some (.iface 55 (.agg #[.int .i64 l1, .int .i64 l2])) ∧ w'.cell? ⟨g, i, none⟩ = some (.iface 55 (.agg #[.int .i64 y1, .int .i64 y2])))
            ((first | go_keep | exact ⟨by assumption, by assumption, by assumption⟩))
            ((go_at_call 45; (with_reducible refine Calls.mono (C2.out _) ?_); rintro e wF ⟨rfl, hbF⟩; have hqF := HQE.out.drew.below hbF; have HFF : Hid (PqFr b b (some g) (some g) w wF) := Lib.hid ((HWE.out.drew).trans (PqFr.of_below hbF)); have u0 := hqF.c0 HL.out; have u1 := hqF.ci (2 * i + 1) n l1 l2 HL.out (by have := HCH.out.1.2.1; omega) HLX.out; have u2 := hqF.ci i n y1 y2 HL.out (by have := HCH.out.1.2.1; omega) HY.out; have HQF := Lib.hid hqF; clear hbF hqF))
          all_goals
            have HSW : Hid (Calls Tryd.prog 28 #[.pointer (some ⟨b, 0, none⟩), .int .i64 (i : Int), .int .i64 (2 * (i : Int) + 1)] wF fun e w' => e = .returned (.tuple #[]) ∧ Pq w' b m (some ⟨g, 0, none⟩) c (swp hs i (2 * i + 1)) gone dup ∧ PqFr b b (some g) (some g) wF w') := Lib.hid (swap_any b m g c hs gone dup i (2 * i + 1) wF HQF.out (by rw [HL.out]; omega) (by rw [HL.out]; exact HCH.out.1.2.1))
            go_wp2_with fail
            refine HSW.out.mono ?_
            rintro e wG ⟨rfl, hqG, hfG⟩
            have HQG := Lib.hid hqG
            have HFG := Lib.hid (HFF.out.trans hfG)
            clear hqG hfG
            go_wp2_with fail
            cases gk with
            | zero => omega
            | succ gk =>
              go_roundg gk
              case measure => omega
              case rel =>
                have hk1 : key hs (2 * i + 1) = l1 := by unfold key; rw [HLX.out]
                have hk2 : key hs i = y1 := by unfold key; rw [HY.out]
                have hcm := HCM2.out
                obtain ⟨⟨q0, q1, q2⟩, q3⟩ := HCH.out
                have hln := HL.out
                refine ⟨2 * i + 1, swp hs i (2 * i + 1), by go_num, pop_int (by push_cast; omega), pop_int (by push_cast; omega), by omega, by rw [swp_len]; exact hln, down_step HD.out q0 (by omega) q2 (by omega) q3, (swp_perm hs i (2 * i + 1) (by omega) (by omega)).trans HP.out, HQG.out, HFG.out, by omega⟩
        · have hO3 : ordI l1 y1 = 0 ∨ ordI l1 y1 = 1 := by rcases hO2 with ⟨_, h⟩ | ⟨_, h⟩; exact .inl h; exact .inr h
          have HCM2 : Hid (y1 ≤ l1) := Lib.hid (by rcases hO2 with ⟨h, _⟩ | ⟨h, _⟩ <;> omega)
          clear hO2
          rcases hO3 with hO2 | hO2
          all_goals
            rw [hO2] at C2
            clear hO2
            go_wp2_with fail
            go_region_held3 (fun w' => w'.cell? ⟨b, 0, none⟩ = some (.slice (some ⟨g, 0, none⟩) n c) ∧ w'.cell? ⟨g, 2 * i + 1, none⟩ = some (.iface 55 (.agg #[.int .i64 l1, .int .i64 l2])) ∧ w'.cell? ⟨g, i, none⟩ = some (.iface 55 (.agg #[.int .i64 y1, .int .i64 y2])))
              ((first | go_keep | exact ⟨by assumption, by assumption, by assumption⟩))
              ((go_at_call 45; (with_reducible refine Calls.mono (C2.out _) ?_); rintro e wF ⟨rfl, hbF⟩; have hqF := HQE.out.drew.below hbF; have HFF : Hid (PqFr b b (some g) (some g) w wF) := Lib.hid ((HWE.out.drew).trans (PqFr.of_below hbF)); have u0 := hqF.c0 HL.out; have u1 := hqF.ci (2 * i + 1) n l1 l2 HL.out (by have := HCH.out.1.2.1; omega) HLX.out; have u2 := hqF.ci i n y1 y2 HL.out (by have := HCH.out.1.2.1; omega) HY.out; have HQF := Lib.hid hqF; clear hbF hqF))
          all_goals
            go_wp2_with fail
            go_ret
            have hk1 : key hs (2 * i + 1) = l1 := by unfold key; rw [HLX.out]
            have hk2 : key hs i = y1 := by unfold key; rw [HY.out]
            have hcm := HCM2.out
            obtain ⟨⟨q0, q1, q2⟩, q3⟩ := HCH.out
            have hcp := HCP.out
            rw [HX.out] at hcp
            exact ⟨rfl, hs, HQF.out, down_end HD.out (fun j h1 h2 h3 => by have := q3 j h1 h2 h3; omega), (HP.out.cons _).trans hcp, HFF.out⟩
    · have hlc : ¬ 2 * (i : Int) + 1 < (n : Int) := by omega
      have hlc2 : (n : Int) ≤ 2 * (i : Int) + 1 := by omega
      clear hpq
      go_wp2_with fail
      go_ret
      have hcp := HCP.out
      rw [HX.out] at hcp
      have hln := HL.out
      exact ⟨rfl, hs, HQ.out, down_end HD.out (fun j h1 h2 h3 => by unfold par at h3; omega), (HP.out.cons _).trans hcp, HF.out⟩
end Go.Proofs.YtepjailijekepaaDoor
