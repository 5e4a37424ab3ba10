/- Walks of blocks' insert and of deleteAtIndex of both slice types (printed by gen_ba_ins.py). -/
import Derived.Test.YtgifbdjifmoafaaGreatBaIns
namespace Go.Proofs.YtgifbdjifmoafaaGreat
set_option linter.unusedVariables false
open Go.RowKit Bam

theorem own_short {w : World} {B : Nat} {e : TypeId} {g n cap : Nat} {xs : List Value} (h : w.ownsRow B e 1 (.slice (some ⟨g, 0, none⟩) n cap) n xs) {m : Nat} (hm : m ≤ n) : w.ownsRow B e 1 (.slice (some ⟨g, 0, none⟩) m cap) m (xs.take m) := by
  have hl := h.1
  rw [Nat.mul_one] at hl
  refine ⟨by rw [Nat.mul_one, List.length_take]; omega, ?_⟩
  rcases h.2 with ⟨e, _⟩ | ⟨g', cap', cur, e, hbg, hg, h1, h2, h3, h4⟩
  · simp at e
  · injection e with e1 e2 e3
    injection e1 with e1
    injection e1 with e1
    subst e1 e3
    refine .inr ⟨g, cap, cur, rfl, hbg, hg, by omega, h2, h3, ?_⟩
    rw [Nat.mul_one] at h4 ⊢
    rw [← h4, List.take_take, Nat.min_eq_left hm]

set_option maxHeartbeats 2000000 in
theorem blinsert_end (p o : Nat) (T : TypeId) (cs : Array Value) (a : Option Addr) (n cap : Nat) (S : List Nat) (r : Nat) (w : World) (hb : Blk w p T cs) (ho : cs[o]? = some (.slice a n cap)) (hT : 87 ≠ T)
    (hown : Ue 87 w (.slice a n cap) S) (hN : n = S.length) (hn : n ≤ 100000) (hr : r = n) :
    Calls Tryz.prog 134 #[.pointer (some ⟨p, o, none⟩), .int .i64 (r : Int)] w fun e w' => e = .returned (.tuple #[]) ∧
      ∃ a' cap', Ue 87 w' (.slice a' (n + 1) cap') (insAt S r 0) ∧ Blk w' p T (cs.setIfInBounds o (.slice a' (n + 1) cap')) ∧ Fr (p :: obl (.slice a n cap)) (p :: obl (.slice a' (n + 1) cap')) w w' := by
  have h01 : w.cell? ⟨p, o, none⟩ = some (.slice a n cap) := hb.cell o ho
  have hf1 := hb.free o
  have hne : (Value.slice a n cap).ownBlock ≠ some p := row_blk hown hb hT
  have HN := Lib.hid hN
  have HB1 := Lib.hid hb
  have HO := Lib.hid ho
  have HW1 := Lib.hid hown
  have HO1 := Lib.hid (hown.to hN)
  have HNE := Lib.hid hne
  have HF1 : Hid (Fr (p :: obl (.slice a n cap)) (p :: obl (.slice a n cap)) w w) := Lib.hid (Fr.refl _ _)
  clear hb ho hown hN hne
  subst hr
  go_enter Tryz.func134, Tryz.ntmps134
  go_wp2_with (at_builtin; refine wpList_append1A rfl _ _ 108 rfl 0 87 (.int .u64 0) 8 Tryz.underlying108 info_blk rfl _ r _ rfl HO1.out (.int .u64 0) rfl rfl (by unfold maxLen; omega) (by omega) (Nat.zero_le _) ?_; intro g2 cap2 w2 own2 fr2; have O2 := Lib.hid own2; have F2 := Lib.hid fr2; have hbk2 := F2.out.blk HB1.out (fun e => HNE.out (mem_obl.1 e)); have B2 := Lib.hid hbk2; have hf2 := hbk2.free o; have hc2 := hbk2.cell o HO.out; clear own2 fr2 hbk2)
  refine bodyPost_ret (results_none rfl _ _ _) rfl ?_
  have hpg : p ≠ g2 := fun e => row_blk O2.out B2.out hT (by rw [e]; rfl)
  refine ⟨rfl, some ⟨g2, 0, none⟩, cap2, ?_, B2.out.set o _, ?_⟩
  · have e : insAt S r 0 = S ++ [0] := by
      have h := HN.out
      unfold insAt
      rw [List.take_of_length_le (by omega), List.drop_of_length_le (by omega)]
    rw [e]
    have h := O2.out
    have e2 : u64s S ++ [.int .u64 0] = u64s (S ++ [0]) := by simp [u64s]
    rw [e2] at h
    exact Ue.of ((fr_store_other w2 p o _).own h (fun k hk => by rw [obl_some, List.mem_singleton] at hk; simp; omega))
  · exact (HF1.out.trans (Fr.weaken F2.out (fun k hk => List.mem_cons_of_mem _ hk) (fun k hk => by
      rcases List.mem_cons.1 hk with e | e
      · exact .inr (e ▸ List.mem_cons_self)
      · exact .inl e))).trans (Fr.store _ (a := ⟨p, o, none⟩) List.mem_cons_self _)

set_option maxHeartbeats 2000000 in
theorem blinsert_new (p o : Nat) (T : TypeId) (cs : Array Value) (a : Option Addr) (n cap : Nat) (S : List Nat) (r : Nat) (w : World) (hb : Blk w p T cs) (ho : cs[o]? = some (.slice a n cap)) (hT : 87 ≠ T)
    (hown : Ue 87 w (.slice a n cap) S) (hN : n = S.length) (hn : n ≤ 100000) (hr : r < n) :
    Calls Tryz.prog 134 #[.pointer (some ⟨p, o, none⟩), .int .i64 (r : Int)] w fun e w' => e = .returned (.tuple #[]) ∧
      ∃ a' cap', Ue 87 w' (.slice a' (n + 1) cap') (insAt S r 0) ∧ Blk w' p T (cs.setIfInBounds o (.slice a' (n + 1) cap')) ∧ Fr (p :: obl (.slice a n cap)) (p :: obl (.slice a' (n + 1) cap')) w w' := by
  have h01 : w.cell? ⟨p, o, none⟩ = some (.slice a n cap) := hb.cell o ho
  have hf1 := hb.free o
  have hne : (Value.slice a n cap).ownBlock ≠ some p := row_blk hown hb hT
  have HN := Lib.hid hN
  have HB1 := Lib.hid hb
  have HO := Lib.hid ho
  have HW1 := Lib.hid hown
  have HO1 := Lib.hid (hown.to hN)
  have HNE := Lib.hid hne
  have HF1 : Hid (Fr (p :: obl (.slice a n cap)) (p :: obl (.slice a n cap)) w w) := Lib.hid (Fr.refl _ _)
  clear hb ho hown hN hne
  rcases HW1.out.cases with ⟨e, e2⟩ | ⟨g, cap', e, hg, hc1, hc2, hcell⟩
  · have := HN.out; rw [e2] at this; simp at this; omega
  · injection e with e1 e2 e3
    subst e1 e3
    have hne2 : ((r : Int) == (n : Int)) = false := by simp; omega
    clear hcell e2 hc1 hc2
    go_enter Tryz.func134, Tryz.ntmps134
    go_wp2_with (at_builtin; refine wpList_append1A rfl _ _ 108 rfl 0 87 (.int .u64 0) 8 Tryz.underlying108 info_blk rfl _ n _ rfl HO1.out (.int .u64 0) rfl rfl (by unfold maxLen; omega) (by omega) (Nat.zero_le _) ?_; intro g2 cap2 w2 own2 fr2; have O2 := Lib.hid own2; have F2 := Lib.hid fr2; have hbk2 := F2.out.blk HB1.out (fun e => HNE.out (mem_obl.1 e)); have B2 := Lib.hid hbk2; have hf2 := hbk2.free o; have hc2 := hbk2.cell o HO.out; clear own2 fr2 hbk2)
    have hpg : p ≠ g2 := fun e => row_blk O2.out B2.out hT (by rw [e]; rfl)
    have hcap : n + 1 ≤ cap2 := by
      rcases O2.out.2 with ⟨e, _⟩ | ⟨g', cap', cur, e, _, _, hc1, _⟩
      · simp at e
      · injection e with e1 e2 e3; subst e3; exact hc1
    obtain ⟨w3, hw3⟩ : ∃ w3, w2.setCell ⟨p, o, none⟩ (.slice (some ⟨g2, 0, none⟩) (n + 1) cap2) = w3 := ⟨_, rfl⟩
    have hB3 : Blk w3 p T (cs.setIfInBounds o (.slice (some ⟨g2, 0, none⟩) (n + 1) cap2)) := hw3 ▸ B2.out.set o _
    have ho3 : (cs.setIfInBounds o (.slice (some ⟨g2, 0, none⟩) (n + 1) cap2))[o]? = some (.slice (some ⟨g2, 0, none⟩) (n + 1) cap2) := by
      have := (Array.getElem?_eq_some_iff.1 HO.out).1
      simp [this]
    have hO3 : w3.ownsRow 0 87 1 (.slice (some ⟨g2, 0, none⟩) (n + 1) cap2) (n + 1) (u64s S ++ [.int .u64 0]) := hw3 ▸ (fr_store_other w2 p o _).own O2.out (fun k hk => by rw [obl_some, List.mem_singleton] at hk; simp; omega)
    have hF3 : Fr (p :: obl (.slice (some ⟨g, 0, none⟩) n cap)) [p, g2] w w3 := hw3 ▸ (HF1.out.trans (Fr.weaken F2.out (fun k hk => List.mem_cons_of_mem _ hk) (fun k hk => by
      rcases List.mem_cons.1 hk with e | e
      · exact .inr (e ▸ List.mem_cons_self)
      · exact .inl e))).trans (Fr.store _ (a := ⟨p, o, none⟩) List.mem_cons_self _)
    rw [hw3]
    have c3 := hB3.cell o ho3
    have HB3 := Lib.hid hB3
    have HO3 := Lib.hid ho3
    have HW3 := Lib.hid hO3
    have HF3 := Lib.hid hF3
    clear hw3 hB3 ho3 hO3 hF3 hc2 hf2
    have f1 : r + 1 ≤ cap2 := by omega
    have f2 : ¬ cap2 = r + 1 := by omega
    have f3 : ¬ cap2 = r := by omega
    have f4 : (r : Int) + 1 ≤ (cap2 : Int) := by omega
    have f5 : (r : Int) ≤ (cap2 : Int) := by omega
    have f6 : (0 : Int) ≤ (r : Int) := by omega
    have f7 : (0 : Int) ≤ (r : Int) + 1 := by omega
    have f8 : IntKind.i64.wrap ((r : Int) + 1) = (r : Int) + 1 := IntWalk.i64_in _ (by omega)
    have f9 : ((r : Int) + 1).toNat = r + 1 := by omega
    have f10 : r ≤ n + 1 := by omega
    have f14 : (r : Int) + 1 ≤ (n : Int) + 1 := by omega
    have f15 : (r : Int) ≤ (n : Int) + 1 := by omega
    have f16 : (r : Int) ≤ (n : Int) := by omega
    have hone : ∀ u ∈ u64s S ++ [.int .u64 0], u.oneCell' = true := fun u hu => by
      rcases List.mem_append.1 hu with h | h
      · exact u64s_one _ u h
      · rw [List.mem_singleton.1 h]; rfl
    have HONE := Lib.hid hone
    clear hone
    go_region_law ((refine step_copyIn (by rfl) (.tmp 29) (.tmp 34) 108 108 (by rfl) 0 87 (.int .u64 0) 8 Tryz.underlying108 info_blk g2 (n + 1) cap2 (u64s S ++ [.int .u64 0]) (row_drew HW3.out) HONE.out (r + 1) r (by omega) (by omega) (some ⟨g2, r + 1, none⟩) (some ⟨g2, r, none⟩) (n - r) (n + 1 - r) (cap2 - (r + 1)) (cap2 - r) (by go_simp) (by go_simp) (by omega) (by omega) (fun _ => rfl) (fun _ => rfl) ?_; intro w4 own4 hg4 hb4))
    all_goals
      have hst := own4.stored r (.int .u64 ((0 : Nat) : Int))
      have hfz := own4.frozenAt r
      have hlen4 := own4.1
      rw [Nat.mul_one] at hlen4
      have hce : ∃ u, w4.cell? ⟨g2, r, none⟩ = some u := by
        obtain ⟨u, hu⟩ : ∃ u, (moved (u64s S ++ [.int .u64 0]) (r + 1) r)[r]? = some u := ⟨_, List.getElem?_eq_getElem (by rw [hlen4]; omega)⟩
        have := own4.cells (g := g2) rfl r u hu
        rw [addr_add, Nat.zero_add] at this
        exact ⟨u, this⟩
      obtain ⟨u, hce⟩ := hce
      have hmi : (moved (u64s S ++ [.int .u64 0]) (r + 1) r).set r (.int .u64 ((0 : Nat) : Int)) = u64s (insAt S r 0) := by
        rw [moved_ins _ _ _ _ (by rw [u64s_len, ← HN.out]; exact hr), u64s_insAt]
      rw [hmi] at hst
      have hB4 : Blk w4 p T (cs.setIfInBounds o (.slice (some ⟨g2, 0, none⟩) (n + 1) cap2)) := (Fr.of_grown_same hg4).blk HB3.out (fun e => hpg (List.mem_singleton.1 e))
      have c4 := hB4.cell o HO3.out
      have HS4 := Lib.hid hst
      have HB4 := Lib.hid hB4
      have HG4 := Lib.hid (Fr.of_grown_same hg4)
      clear hst hmi hlen4 own4 hg4 hb4 hB4 c3
      go_wp2_with fail
      go_end0
      refine ⟨rfl, some ⟨g2, 0, none⟩, cap2, Ue.of HS4.out.1, HB4.out.other (a := ⟨g2, r, none⟩) hpg _, ?_⟩
      exact HF3.out.drew.trans ((Fr.weaken (G := [p, g2]) (G' := [p, g2]) HG4.out (fun k hk => List.mem_cons_of_mem _ hk) (fun k hk => .inr hk)).trans (Fr.store _ (a := ⟨g2, r, none⟩) (List.mem_cons_of_mem _ (List.mem_singleton.2 rfl)) _))
set_option maxHeartbeats 2000000 in
theorem udelete_any (p o : Nat) (T : TypeId) (cs : Array Value) (a : Option Addr) (n cap : Nat) (S : List Nat) (r : Nat) (w : World) (hb : Blk w p T cs) (ho : cs[o]? = some (.slice a n cap)) (hT : 25 ≠ T)
    (hown : Ue 25 w (.slice a n cap) S) (hN : n = S.length) (hn : n ≤ 100000) (m : Nat) (hm : n = m + 1) (hr : r < n) :
    Calls Tryz.prog 101 #[.pointer (some ⟨p, o, none⟩), .int .i64 (r : Int)] w fun e w' => e = .returned (.tuple #[]) ∧
      ∃ g cap', a = some ⟨g, 0, none⟩ ∧ Ue 25 w' (.slice a m cap') (S.eraseIdx r) ∧ Blk w' p T (cs.setIfInBounds o (.slice a m cap')) ∧ Fr (p :: obl (.slice a n cap)) (p :: obl (.slice a m cap')) w w' := by
  have h01 : w.cell? ⟨p, o, none⟩ = some (.slice a n cap) := hb.cell o ho
  have hf1 := hb.free o
  have hne : (Value.slice a n cap).ownBlock ≠ some p := row_blk hown hb hT
  have HN := Lib.hid hN
  have HB1 := Lib.hid hb
  have HO := Lib.hid ho
  have HW1 := Lib.hid hown
  have HO1 := Lib.hid (hown.to hN)
  have HNE := Lib.hid hne
  have HF1 : Hid (Fr (p :: obl (.slice a n cap)) (p :: obl (.slice a n cap)) w w) := Lib.hid (Fr.refl _ _)
  clear hb ho hown hN hne
  rcases HW1.out.cases with ⟨e, e2⟩ | ⟨g, cap', e, hg, hc1, hc2, hcell⟩
  · have := HN.out; rw [e2] at this; simp at this; omega
  · injection e with e1 e2 e3
    subst e1 e3
    rw [← HN.out] at hc1
    clear hcell e2 hc2
    have hpg : p ≠ g := fun e => HNE.out (by rw [e]; rfl)
    have f1 : r + 1 ≤ cap := by omega
    have f3 : ¬ cap = r := by omega
    have f4 : (r : Int) + 1 ≤ (cap : Int) := by omega
    have f5 : (r : Int) ≤ (cap : Int) := by omega
    have f6 : (0 : Int) ≤ (r : Int) := by omega
    have f7 : (0 : Int) ≤ (r : Int) + 1 := by omega
    have f8 : IntKind.i64.wrap ((r : Int) + 1) = (r : Int) + 1 := IntWalk.i64_in _ (by omega)
    have f9 : ((r : Int) + 1).toNat = r + 1 := by omega
    have f10 : r ≤ n := by omega
    have f14 : (r : Int) + 1 ≤ (n : Int) := by omega
    have f15 : (r : Int) ≤ (n : Int) := by omega
    have f16 : (n : Int) ≤ (cap : Int) := by omega
    obtain ⟨a2, hif⟩ : ∃ a2, (if cap = r + 1 then some (⟨g, 0, none⟩ : Addr) else some ⟨g, r + 1, none⟩) = a2 := ⟨_, rfl⟩
    have hia : r + 1 < n → a2 = some ⟨g, r + 1, none⟩ := fun h => by rw [← hif, if_neg (by omega)]
    have HIA := Lib.hid hia
    have HONE := Lib.hid (u64s_one S)
    have HM := Lib.hid hm
    clear hia hm
    go_enter Tryz.func101, Tryz.ntmps101
    go_wp2_with fail
    go_region_law ((refine step_copyIn (by rfl) (.tmp 8) (.tmp 14) 109 109 (by rfl) 0 25 (.int .u64 0) 8 Tryz.underlying109 info_u64 g n cap (u64s S) (row_drew HO1.out) HONE.out r (r + 1) (by omega) (by omega) (some ⟨g, r, none⟩) a2 (n - r) (n - (r + 1)) (cap - r) (cap - (r + 1)) (by go_simp) (by go_simp) (by omega) (by omega) (fun _ => rfl) HIA.out ?_; intro w4 own4 hg4 hb4))
    all_goals
      have hm := HM.out
      have hB4 : Blk w4 p T cs := (Fr.of_grown_same hg4).blk HB1.out (fun e => hpg (List.mem_singleton.1 e))
      have c4 := hB4.cell o HO.out
      have hst := own4.stored m (.int .u64 0)
      have hfz := own4.frozenAt m
      have hlen4 := own4.1
      rw [Nat.mul_one] at hlen4
      have hce : ∃ u, w4.cell? ⟨g, m, none⟩ = some u := by
        obtain ⟨u, hu⟩ : ∃ u, (moved (u64s S) r (r + 1))[m]? = some u := ⟨_, List.getElem?_eq_getElem (by rw [hlen4]; omega)⟩
        have := own4.cells (g := g) rfl m u hu
        rw [addr_add, Nat.zero_add] at this
        exact ⟨u, this⟩
      obtain ⟨u, hce⟩ := hce
      have k1 : IntKind.i64.wrap ((n : Int) - 1) = (m : Int) := by rw [IntWalk.i64_in _ (by omega)]; omega
      have k1b : (n : Int) - 1 = (m : Int) := by omega
      have k2 : (m : Int) < (n : Int) := by omega
      have k3 : (0 : Int) ≤ (m : Int) := by omega
      have k4 : m < n := by omega
      have k5 : m ≤ cap := by omega
      have k6 : (m : Int) ≤ (cap : Int) := by omega
      have HS4 := Lib.hid hst
      have HB4 := Lib.hid hB4
      have HG4 := Lib.hid (Fr.of_grown_same hg4)
      clear hst hlen4 own4 hg4 hb4 hB4 hm
      go_wp2_with fail
      go_region
      all_goals
        obtain ⟨w5, hw5⟩ : ∃ w5, (w4.setCell ⟨g, m, none⟩ (.int .u64 0)).drew = w5 := ⟨_, rfl⟩
        have hB5 : Blk w5 p T cs := hw5 ▸ HB4.out.other (a := ⟨g, m, none⟩) hpg _
        have hO5 : w5.ownsRow 0 25 1 (.slice (some ⟨g, 0, none⟩) n cap) n ((moved (u64s S) r (r + 1)).set m (.int .u64 0)) := hw5 ▸ row_drew HS4.out.1
        have hF5 : Fr [p, g] [p, g] w w5 := hw5 ▸ (((Fr.refl [p, g] w).drew.trans (Fr.weaken (G := [p, g]) (G' := [p, g]) HG4.out (fun k hk => List.mem_cons_of_mem _ hk) (fun k hk => .inr hk))).trans (Fr.store _ (a := ⟨g, m, none⟩) (List.mem_cons_of_mem _ (List.mem_singleton.2 rfl)) _)).drew
        rw [hw5]
        have c5 := hB5.cell o HO.out
        have f5z := hB5.free o
        have HB5 := Lib.hid hB5
        have HO5 := Lib.hid hO5
        have HF5 := Lib.hid hF5
        clear hw5 hB5 hO5 hF5 c4 hfz hce
        go_wp2_with fail
        go_region
        all_goals
          go_end0
          refine ⟨rfl, g, cap, rfl, ?_, HB5.out.set o _, ?_⟩
          · have h := own_short HO5.out (show m ≤ n by omega)
            have e : ((moved (u64s S) r (r + 1)).set m (.int .u64 0)).take m = u64s (S.eraseIdx r) := by
              have hl : (u64s S).length = n := by rw [u64s_len]; exact HN.out.symm
              have hmn : m = (u64s S).length - 1 := by rw [hl]; have := HM.out; omega
              rw [List.take_set_of_le (Nat.le_refl _), hmn, moved_del _ _ (by rw [hl]; exact hr)]
              simp [u64s, List.eraseIdx_eq_take_drop_succ, List.map_take, List.map_drop]
            rw [e] at h
            exact Ue.of (row_drew ((fr_store_other w5 p o _).own h (fun k hk => by rw [obl_some, List.mem_singleton] at hk; simp; omega)))
          · exact (HF5.out.trans (Fr.store _ (a := ⟨p, o, none⟩) List.mem_cons_self _)).drew
set_option maxHeartbeats 2000000 in
theorem bldelete_any (p o : Nat) (T : TypeId) (cs : Array Value) (a : Option Addr) (n cap : Nat) (S : List Nat) (r : Nat) (w : World) (hb : Blk w p T cs) (ho : cs[o]? = some (.slice a n cap)) (hT : 87 ≠ T)
    (hown : Ue 87 w (.slice a n cap) S) (hN : n = S.length) (hn : n ≤ 100000) (m : Nat) (hm : n = m + 1) (hr : r < n) :
    Calls Tryz.prog 100 #[.pointer (some ⟨p, o, none⟩), .int .i64 (r : Int)] w fun e w' => e = .returned (.tuple #[]) ∧
      ∃ g cap', a = some ⟨g, 0, none⟩ ∧ Ue 87 w' (.slice a m cap') (S.eraseIdx r) ∧ Blk w' p T (cs.setIfInBounds o (.slice a m cap')) ∧ Fr (p :: obl (.slice a n cap)) (p :: obl (.slice a m cap')) w w' := by
  have h01 : w.cell? ⟨p, o, none⟩ = some (.slice a n cap) := hb.cell o ho
  have hf1 := hb.free o
  have hne : (Value.slice a n cap).ownBlock ≠ some p := row_blk hown hb hT
  have HN := Lib.hid hN
  have HB1 := Lib.hid hb
  have HO := Lib.hid ho
  have HW1 := Lib.hid hown
  have HO1 := Lib.hid (hown.to hN)
  have HNE := Lib.hid hne
  have HF1 : Hid (Fr (p :: obl (.slice a n cap)) (p :: obl (.slice a n cap)) w w) := Lib.hid (Fr.refl _ _)
  clear hb ho hown hN hne
  rcases HW1.out.cases with ⟨e, e2⟩ | ⟨g, cap', e, hg, hc1, hc2, hcell⟩
  · have := HN.out; rw [e2] at this; simp at this; omega
  · injection e with e1 e2 e3
    subst e1 e3
    rw [← HN.out] at hc1
    clear hcell e2 hc2
    have hpg : p ≠ g := fun e => HNE.out (by rw [e]; rfl)
    have f1 : r + 1 ≤ cap := by omega
    have f3 : ¬ cap = r := by omega
    have f4 : (r : Int) + 1 ≤ (cap : Int) := by omega
    have f5 : (r : Int) ≤ (cap : Int) := by omega
    have f6 : (0 : Int) ≤ (r : Int) := by omega
    have f7 : (0 : Int) ≤ (r : Int) + 1 := by omega
    have f8 : IntKind.i64.wrap ((r : Int) + 1) = (r : Int) + 1 := IntWalk.i64_in _ (by omega)
    have f9 : ((r : Int) + 1).toNat = r + 1 := by omega
    have f10 : r ≤ n := by omega
    have f14 : (r : Int) + 1 ≤ (n : Int) := by omega
    have f15 : (r : Int) ≤ (n : Int) := by omega
    have f16 : (n : Int) ≤ (cap : Int) := by omega
    obtain ⟨a2, hif⟩ : ∃ a2, (if cap = r + 1 then some (⟨g, 0, none⟩ : Addr) else some ⟨g, r + 1, none⟩) = a2 := ⟨_, rfl⟩
    have hia : r + 1 < n → a2 = some ⟨g, r + 1, none⟩ := fun h => by rw [← hif, if_neg (by omega)]
    have HIA := Lib.hid hia
    have HONE := Lib.hid (u64s_one S)
    have HM := Lib.hid hm
    clear hia hm
    go_enter Tryz.func100, Tryz.ntmps100
    go_wp2_with fail
    go_region_law ((refine step_copyIn (by rfl) (.tmp 8) (.tmp 14) 108 108 (by rfl) 0 87 (.int .u64 0) 8 Tryz.underlying108 info_blk g n cap (u64s S) (row_drew HO1.out) HONE.out r (r + 1) (by omega) (by omega) (some ⟨g, r, none⟩) a2 (n - r) (n - (r + 1)) (cap - r) (cap - (r + 1)) (by go_simp) (by go_simp) (by omega) (by omega) (fun _ => rfl) HIA.out ?_; intro w4 own4 hg4 hb4))
    all_goals
      have hm := HM.out
      have hB4 : Blk w4 p T cs := (Fr.of_grown_same hg4).blk HB1.out (fun e => hpg (List.mem_singleton.1 e))
      have c4 := hB4.cell o HO.out
      have hst := own4.stored m (.int .u64 0)
      have hfz := own4.frozenAt m
      have hlen4 := own4.1
      rw [Nat.mul_one] at hlen4
      have hce : ∃ u, w4.cell? ⟨g, m, none⟩ = some u := by
        obtain ⟨u, hu⟩ : ∃ u, (moved (u64s S) r (r + 1))[m]? = some u := ⟨_, List.getElem?_eq_getElem (by rw [hlen4]; omega)⟩
        have := own4.cells (g := g) rfl m u hu
        rw [addr_add, Nat.zero_add] at this
        exact ⟨u, this⟩
      obtain ⟨u, hce⟩ := hce
      have k1 : IntKind.i64.wrap ((n : Int) - 1) = (m : Int) := by rw [IntWalk.i64_in _ (by omega)]; omega
      have k1b : (n : Int) - 1 = (m : Int) := by omega
      have k2 : (m : Int) < (n : Int) := by omega
      have k3 : (0 : Int) ≤ (m : Int) := by omega
      have k4 : m < n := by omega
      have k5 : m ≤ cap := by omega
      have k6 : (m : Int) ≤ (cap : Int) := by omega
      have HS4 := Lib.hid hst
      have HB4 := Lib.hid hB4
      have HG4 := Lib.hid (Fr.of_grown_same hg4)
      clear hst hlen4 own4 hg4 hb4 hB4 hm
      go_wp2_with fail
      go_region
      all_goals
        obtain ⟨w5, hw5⟩ : ∃ w5, (w4.setCell ⟨g, m, none⟩ (.int .u64 0)).drew = w5 := ⟨_, rfl⟩
        have hB5 : Blk w5 p T cs := hw5 ▸ HB4.out.other (a := ⟨g, m, none⟩) hpg _
        have hO5 : w5.ownsRow 0 87 1 (.slice (some ⟨g, 0, none⟩) n cap) n ((moved (u64s S) r (r + 1)).set m (.int .u64 0)) := hw5 ▸ row_drew HS4.out.1
        have hF5 : Fr [p, g] [p, g] w w5 := hw5 ▸ (((Fr.refl [p, g] w).drew.trans (Fr.weaken (G := [p, g]) (G' := [p, g]) HG4.out (fun k hk => List.mem_cons_of_mem _ hk) (fun k hk => .inr hk))).trans (Fr.store _ (a := ⟨g, m, none⟩) (List.mem_cons_of_mem _ (List.mem_singleton.2 rfl)) _)).drew
        rw [hw5]
        have c5 := hB5.cell o HO.out
        have f5z := hB5.free o
        have HB5 := Lib.hid hB5
        have HO5 := Lib.hid hO5
        have HF5 := Lib.hid hF5
        clear hw5 hB5 hO5 hF5 c4 hfz hce
        go_wp2_with fail
        go_region
        all_goals
          go_end0
          refine ⟨rfl, g, cap, rfl, ?_, HB5.out.set o _, ?_⟩
          · have h := own_short HO5.out (show m ≤ n by omega)
            have e : ((moved (u64s S) r (r + 1)).set m (.int .u64 0)).take m = u64s (S.eraseIdx r) := by
              have hl : (u64s S).length = n := by rw [u64s_len]; exact HN.out.symm
              have hmn : m = (u64s S).length - 1 := by rw [hl]; have := HM.out; omega
              rw [List.take_set_of_le (Nat.le_refl _), hmn, moved_del _ _ (by rw [hl]; exact hr)]
              simp [u64s, List.eraseIdx_eq_take_drop_succ, List.map_take, List.map_drop]
            rw [e] at h
            exact Ue.of (row_drew ((fr_store_other w5 p o _).own h (fun k hk => by rw [obl_some, List.mem_singleton] at hk; simp; omega)))
          · exact (HF5.out.trans (Fr.store _ (a := ⟨p, o, none⟩) List.mem_cons_self _)).drew
end Go.Proofs.YtgifbdjifmoafaaGreat
