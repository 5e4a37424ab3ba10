/- Walk of (*BitSet).DeleteAt. -/
import Derived.Test.YtbgmkojiklphmaaBsWords
import Derived.Test.YtbgmkojiklphmaaBsWhole
import Derived.Test.YtbgmkojiklphmaaBsDelMath
import Derived.Outline
namespace Go.Proofs.Ytbgmkojiklphmaa
set_option linter.unusedVariables false
open Go.RowKit

theorem unbound_any (L : Nat) (w : World) (hL : L ≤ 1000000) :
    Calls Try.prog 103 #[.int .u64 (L : Int)] w fun e w' => e = .returned (.int .i64 (((L + 63) / 64 : Nat) : Int)) ∧ w = w' := by
  have h : ((L : Int) + 63) / 64 = (((L + 63) / 64 : Nat) : Int) := by omega
  have H := Lib.hid h
  clear h
  go_enter Try.func103, Try.ntmps103
  go_wp2_with fail
  go_ret
  exact ⟨ret_int (by rw [← H.out]), rfl⟩

theorem wordcount2_any (p L : Nat) (s : Value) (w : World) (hb : Blk w p 76 #[.int .u64 (L : Int), s]) (hL : L ≤ 1000000) :
    Calls Try.prog 92 #[.pointer (some ⟨p, 0, none⟩)] w fun e w' => e = .returned (.int .i64 (((L + 63) / 64 : Nat) : Int)) ∧ w = w' := by
  have c0 : w.cell? ⟨p, 0, none⟩ = some (.int .u64 (L : Int)) := hb.cell 0 rfl
  go_enter Try.func92, Try.ntmps92
  go_wp2_with fail
  refine (unbound_any L _ hL).mono ?_
  rintro e w' ⟨rfl, rfl⟩
  go_wp2_with fail
  go_ret
  exact ⟨rfl, rfl⟩

theorem ownsRow_cap {w : World} {B : Nat} {e : TypeId} {a : Addr} {m cap n : Nat} {xs : List Value} (h : w.ownsRow B e 1 (.slice (some a) m cap) n xs) : n ≤ cap := by
  rcases h.2 with ⟨e, _⟩ | ⟨g, cap', cur, e, _, _, hnc, _⟩
  · simp at e
  · simp only [Value.slice.injEq] at e; rw [e.2.2]; exact hnc

theorem ownsRow_cut {w : World} {B : Nat} {e : TypeId} {g n cap : Nat} {xs : List Value} (h : w.ownsRow B e 1 (.slice (some ⟨g, 0, none⟩) n cap) n xs) (m : Nat) (hm : m ≤ n) : w.ownsRow B e 1 (.slice (some ⟨g, 0, none⟩) m cap) m (xs.take m) := by
  have hl := h.1
  rcases h.2 with ⟨e, _⟩ | ⟨g', cap', cur, e, hbg, hg, hnc, hcm, hcs, htake⟩
  · simp at e
  · simp only [Value.slice.injEq, Option.some.injEq, Addr.mk.injEq, and_true, true_and] at e
    obtain ⟨rfl, rfl⟩ := e
    refine ⟨by simp; omega, .inr ⟨g, cap, cur, rfl, hbg, hg, by omega, hcm, hcs, ?_⟩⟩
    rw [← htake, List.take_take]
    congr 1
    omega

def DelLoop (B p L : Nat) (ws : List Nat) (cap g n q y : Nat) (w : World) (k : Nat) (idx : Value) (wr : World) : Prop :=
  ∃ s t : Nat, idx = .int .i64 (t : Int) ∧ t = s + 1 ∧ q ≤ s ∧ t + k = n ∧ Bs B wr p L (Bsm.delw ws q y (s - q)) cap ∧ wr.cell? ⟨p, 1, none⟩ = some (.slice (some ⟨g, 0, none⟩) n cap) ∧ Below B w wr

set_option maxRecDepth 100000 in
set_option maxHeartbeats 2000000 in
theorem delete_any (B p L i : Nat) (ws : List Nat) (cap : Nat) (w : World) (hb : Bs B w p L ws cap) (hwl : ws.length = (L + 63) / 64) (hi : i < L) (hL : L ≤ 10000) :
    Calls Try.prog 66 #[.pointer (some ⟨p, 0, none⟩), .int .u64 (i : Int)] w fun e w' => e = .returned (.pointer (some ⟨p, 0, none⟩)) ∧
      ∃ ws', Bs B w' p (L - 1) ws' cap ∧ L - 1 ≤ 64 * ws'.length ∧ (∀ j, j < L - 1 → Bsm.bit ws' j = if j < i then Bsm.bit ws j else Bsm.bit ws (j + 1)) ∧ Below B w w' := by
  obtain ⟨g, c0, c1, c2⟩ := hb.cells
  obtain ⟨n, hn⟩ : ∃ n, ws.length = n := ⟨_, rfl⟩
  have hwlt := hb.word_lt
  have hgp : ¬ g = p := by
    obtain ⟨g', _, h2, h3, _⟩ := hb
    have e1 : w.cell? ⟨p, 1, none⟩ = some (.slice (some ⟨g', 0, none⟩) ws.length cap) := h3.cell 1 rfl
    rw [c1] at e1
    simp only [Option.some.injEq, Value.slice.injEq, Addr.mk.injEq, and_true] at e1
    rw [e1]; exact h2
  have hpg : ¬ p = g := fun e => hgp e.symm
  obtain ⟨q, hq⟩ : ∃ q, i / 64 = q := ⟨_, rfl⟩
  obtain ⟨r, hr⟩ : ∃ r, i % 64 = r := ⟨_, rfl⟩
  have hr1 : r < 64 := by omega
  have hq1 : (i : Int) / 64 = (q : Int) := by omega
  have hqn : q < n := by omega
  have hn5 : n ≤ 1000 := by omega
  obtain ⟨m0, hm0⟩ : ∃ m0, 2 ^ r - 1 = m0 := ⟨_, rfl⟩
  have hp63 : 2 ^ r ≤ 2 ^ 63 := Nat.pow_le_pow_right (by omega) (by omega)
  have hp1 := Nat.two_pow_pos r
  have hm1 : m0 < 18446744073709551616 := by omega
  have hws : IntKind.u64.wrap (IntKind.u64.wrap ((2 : Int) ^ r) - 1) = (m0 : Int) := by
    rw [pow_wrap _ hr1, IntKind.wrap_u64, ← hm0]; omega
  obtain ⟨M, hM⟩ : ∃ M, 18446744073709551615 - m0 = M := ⟨_, rfl⟩
  have hM1 : M < 18446744073709551616 := by omega
  have hxm : bits BinOp.xor IntKind.u64 IntKind.u64.max (m0 : Int) = (M : Int) := by rw [not_word m0 hm1, hM]
  have hxM : bits BinOp.xor IntKind.u64 IntKind.u64.max (M : Int) = (m0 : Int) := by rw [not_word M hM1]; omega
  have hX := hwlt q
  have hcell := c2 q (by omega)
  obtain ⟨W, hW⟩ : ∃ W, ws.getD q 0 = W := ⟨_, rfl⟩
  rw [hW] at hX hcell
  have hd : bits BinOp.and IntKind.u64 (W : Int) (M : Int) = ((W &&& M : Nat) : Int) := u64_and_nat W M hX hM1
  have he : bits BinOp.and IntKind.u64 (W : Int) (m0 : Int) = ((W &&& m0 : Nat) : Int) := u64_and_nat W m0 hX hm1
  obtain ⟨D, hD⟩ : ∃ D, W &&& M = D := ⟨_, rfl⟩
  have hD1 : D < 18446744073709551616 := by rw [← hD]; exact Nat.lt_of_le_of_lt Nat.and_le_left hX
  obtain ⟨E, hE⟩ : ∃ E, W &&& m0 = E := ⟨_, rfl⟩
  have hE1 : E < 18446744073709551616 := by rw [← hE]; exact Nat.lt_of_le_of_lt Nat.and_le_left hX
  rw [hD] at hd
  rw [hE] at he
  obtain ⟨D2, hD2⟩ : ∃ D2, D / 2 = D2 := ⟨_, rfl⟩
  have hD3 : (D : Int) / 2 = (D2 : Int) := by omega
  have hf : bits BinOp.and IntKind.u64 (D2 : Int) (M : Int) = ((D2 &&& M : Nat) : Int) := u64_and_nat D2 M (by omega) hM1
  obtain ⟨F, hF⟩ : ∃ F, D2 &&& M = F := ⟨_, rfl⟩
  have hF1 : F < 18446744073709551616 := by rw [← hF]; exact Nat.lt_of_le_of_lt Nat.and_le_left (by omega)
  rw [hF] at hf
  have hy : bits BinOp.or IntKind.u64 (E : Int) (F : Int) = ((E ||| F : Nat) : Int) := u64_or_nat E F hE1 hF1
  obtain ⟨y, hyy⟩ : ∃ y, E ||| F = y := ⟨_, rfl⟩
  rw [hyy] at hy
  have hcut : Bsm.cutw (ws.getD (i / 64) 0) (i % 64) = y := by rw [hq, hr, hW, ← hyy, ← hE, ← hF, ← hD2, ← hD, ← hM, ← hm0]; rfl
  have hylt : y < 18446744073709551616 := by rw [← hcut]; exact Bsm.cutw_lt _ _ (by rw [hq, hW]; exact hX)
  have hput1 := Bs.put hb c1 q E hE1 (by omega)
  have hput2 := Bs.put hput1.1 (by rw [List.length_set]; exact hput1.2.2.2.2) q y hylt (by rw [List.length_set]; omega)
  rw [List.set_set] at hput2
  have hfz := hput1.2.2.1
  have hfz2 := hput2.2.2.1
  have HP1 := Lib.hid hput1
  have HP2 := Lib.hid hput2
  have HCUT := Lib.hid hcut
  have HN := Lib.hid hn
  have HWLT := Lib.hid hwlt
  have HB := Lib.hid hb
  have HWL := Lib.hid hwl
  have HQ := Lib.hid hq
  have HR := Lib.hid hr
  rw [hn] at c1
  clear hb hwl hput1 hput2 hcut hwlt hq hr hm0 hM hW hD hE hD2 hF hyy hp63 hp1 c2 hX
  go_enter Try.func66, Try.ntmps66
  go_wp2_with fail
  refine (windex_any i _ (by omega)).mono ?_
  rintro e w' ⟨rfl, rfl⟩
  rw [HR.out]
  go_wp2_with fail
  have HY := Lib.hid hylt
  clear hylt hws hxm hxM hd he hf hy hD3 hfz hfz2 hcell hm1 hM1 hD1 hE1 hF1
  go_loopg [8] (n - q - 1) (fun k idx wr => DelLoop B p L ws cap g n q y w k idx wr)
  case atStart => exact ⟨q, q + 1, by go_num, rfl, Nat.le_refl _, by omega, by simpa [Bsm.delw] using HP2.out.1, by have := HP2.out.2.2.2.2; rwa [List.length_set, HN.out] at this, HP1.out.2.1.trans HP2.out.2.1⟩
  case round =>
    obtain ⟨s, t, rfl, hst, hqs, htk, hbs, hc, hbel⟩ := hrel
    have hl : (Bsm.delw ws q y (s - q)).length = n := by rw [Bsm.delw_len]; exact HN.out
    by_cases ht : t < n
    · cases gk with
      | zero => omega
      | succ k =>
        have hP1 := Bsm.delw_lt ws q y (s - q) HWLT.out HY.out (by rw [HN.out]; omega) s
        have hX1 := HWLT.out t
        have hXt : (Bsm.delw ws q y (s - q)).getD t 0 = ws.getD t 0 := by
          rw [Bsm.delw_getD _ _ _ _ (by rw [HN.out]; omega), if_neg (by omega), if_neg (by omega)]
        have hstep : Bsm.delw ws q y (s - q + 1) = ((Bsm.delw ws q y (s - q)).set s ((Bsm.delw ws q y (s - q)).getD s 0 ||| (ws.getD t 0 % 2) * 9223372036854775808)).set t (ws.getD t 0 / 2) := by
          simp only [Bsm.delw]
          rw [show q + (s - q) = s from by omega, ← hst]
        obtain ⟨P, hP⟩ : ∃ P, (Bsm.delw ws q y (s - q)).getD s 0 = P := ⟨_, rfl⟩
        obtain ⟨X, hX⟩ : ∃ X, ws.getD t 0 = X := ⟨_, rfl⟩
        rw [hP] at hP1 hstep
        rw [hX] at hX1 hstep hXt
        obtain ⟨b0, hb0⟩ : ∃ b0, X % 2 = b0 := ⟨_, rfl⟩
        have hb1 : b0 < 2 := by omega
        have hand : bits BinOp.and IntKind.u64 (X : Int) 1 = (b0 : Int) := by
          have := u64_and_nat X 1 hX1 (by omega)
          rw [Nat.and_one_is_mod, hb0] at this
          exact this
        have hor : bits BinOp.or IntKind.u64 (P : Int) (IntKind.u64.wrap ((b0 : Int) * 9223372036854775808)) = ((P ||| b0 * 9223372036854775808 : Nat) : Int) := by
          have e : IntKind.u64.wrap ((b0 : Int) * 9223372036854775808) = ((b0 * 9223372036854775808 : Nat) : Int) := by rw [IntKind.wrap_u64]; omega
          rw [e]
          exact u64_or_nat P (b0 * 9223372036854775808) hP1 (by omega)
        rw [hb0] at hstep
        have hy1 : P ||| b0 * 9223372036854775808 < 18446744073709551616 := by
          rw [show (18446744073709551616 : Nat) = 2 ^ 64 from rfl] at *
          exact Nat.or_lt_two_pow hP1 (by omega)
        obtain ⟨y1, hy11⟩ : ∃ y1, P ||| b0 * 9223372036854775808 = y1 := ⟨_, rfl⟩
        rw [hy11] at hor hy1 hstep
        obtain ⟨X2, hX2⟩ : ∃ X2, X / 2 = X2 := ⟨_, rfl⟩
        rw [hX2] at hstep
        have hX3 : (X : Int) / 2 = (X2 : Int) := by omega
        have hputA := Bs.put hbs (by rw [hl]; exact hc) s y1 hy1 (by omega)
        have hputB := Bs.put hputA.1 (by rw [List.length_set, hl]; rw [hl] at hputA; exact hputA.2.2.2.2) t X2 (by omega) (by rw [List.length_set]; omega)
        have hcA := hputA.2.2.2.1
        rw [hP] at hcA
        have hcB := (Bs.put hbs (by rw [hl]; exact hc) t X2 (by omega) (by omega)).2.2.2.1
        rw [hXt] at hcB
        have hfA := hputA.2.2.1
        have hfB := (Bs.put hbs (by rw [hl]; exact hc) t X2 (by omega) (by omega)).2.2.1
        rw [← hstep] at hputB
        have HA := Lib.hid hputA
        have HBB := Lib.hid hputB
        have hts : ¬ t = s := by omega
        have hst' : ¬ s = t := by omega
        have hwt : IntKind.i64.wrap ((t : Int) - 1) = (s : Int) := by rw [IntKind.wrap_i64]; omega
        have hs0 : (0 : Int) ≤ (s : Int) := by omega
        have hs1 : (s : Int) < (n : Int) := by omega
        have ht0 : (0 : Int) ≤ (t : Int) := by omega
        have ht1 : (t : Int) < (n : Int) := by omega
        have hsn : s < n := by omega
        have HST := Lib.hid hst
        have HL := Lib.hid hl
        have HBEL := Lib.hid hbel
        clear hP1 hX1 hy1 hb1 hputA hputB hstep hP hX hXt hb0 hy11 hX2 hst hl hbs hbel
        go_wp2_with fail
        refine wp_region_still_tail 18 (by kernel_rfl) (by kernel_rfl) ?_
        simp only [List.take_succ_cons, List.take_zero, List.drop_succ_cons, List.drop_zero]
        repeat still_step
        refine wpStill_nil ?_
        change wpList _ _ _ _ _ wr.drew
        go_wp2_with fail
        go_roundg k
        case measure => omega
        case rel =>
          clear hwt hor hand
          have hst := HST.out
          refine ⟨t, t + 1, by go_num, rfl, by omega, by omega, ?_, ?_, ?_⟩
          · have e : t - q = s - q + 1 := by have := HST.out; omega
            rw [e]
            exact HBB.out.1.drewN 1
          · have := HBB.out.2.2.2.2
            rw [List.length_set, HL.out] at this
            exact this
          · exact ((HBEL.out.trans HA.out.2.1).trans HBB.out.2.1).drew
    · obtain rfl : t = n := by omega
      have hcut := HCUT.out
      have hkk : i / 64 + (s - q) + 1 = ws.length := by rw [HQ.out, HN.out]; omega
      have hbit := Bsm.delw_bit ws i (s - q) HWLT.out hkk
      rw [HCUT.out, HQ.out] at hbit
      have hwl2 := HWL.out
      rw [HN.out] at hwl2
      obtain ⟨L1, hL1⟩ : ∃ L1, L - 1 = L1 := ⟨_, rfl⟩
      have hLL : (L : Int) - 1 = (L1 : Int) := by omega
      obtain ⟨V, hV⟩ : ∃ V, Bsm.delw ws q y (s - q) = V := ⟨_, rfl⟩
      rw [hV] at hbs hl hbit
      obtain ⟨g', b1, b2, b3, b4, b5⟩ := hbs
      have e1 : wr.cell? ⟨p, 1, none⟩ = some (.slice (some ⟨g', 0, none⟩) V.length cap) := b3.cell 1 rfl
      rw [hc] at e1
      simp only [Option.some.injEq, Value.slice.injEq, Addr.mk.injEq, and_true, true_and] at e1
      obtain ⟨rfl, _⟩ := e1
      rw [hl] at b3 b4
      have d0 : wr.cell? ⟨p, 0, none⟩ = some (.int .u64 (L : Int)) := b3.cell 0 rfl
      have f0 := b3.free 0
      have hblk : Blk (wr.setCell ⟨p, 0, none⟩ (.int .u64 (L1 : Int))) p 76 #[.int .u64 (L1 : Int), .slice (some ⟨g, 0, none⟩) t cap] := by simpa using b3.set 0 (.int .u64 (L1 : Int))
      have hown : (wr.setCell ⟨p, 0, none⟩ (.int .u64 (L1 : Int))).ownsRow B 63 1 (.slice (some ⟨g, 0, none⟩) t cap) t (u64s V) := b4.kept (only_setCell (only_refl wr (some p)) (.inl rfl) _) (.inr (by simpa [Value.ownBlock] using b2))
      have HBK := Lib.hid hblk
      have HO := Lib.hid hown
      have HBIT := Lib.hid hbit
      have HV5 := Lib.hid b5
      have HVL := Lib.hid hl
      have HL1 := Lib.hid hL1
      have HBEL := Lib.hid hbel
      have hbp := b1
      have HWL2 := Lib.hid hwl2
      have hLe : 1 ≤ L := by omega
      clear hcut hkk hbit hwl2 hL1 hV hl b1 b2 b3 b4 b5 hblk hown hbel hst hqs
      go_wp2_with fail
      refine (wordcount2_any p L1 _ _ HBK.out (by have := HL1.out; omega)).mono ?_
      rintro e w2 ⟨rfl, rfl⟩
      obtain ⟨m, hm⟩ : ∃ m, (L1 + 63) / 64 = m := ⟨_, rfl⟩
      rw [hm]
      have x1 : (wr.setCell ⟨p, 0, none⟩ (.int .u64 (L1 : Int))).cell? ⟨p, 1, none⟩ = some (.slice (some ⟨g, 0, none⟩) t cap) := HBK.out.cell 1 rfl
      have f1 := HBK.out.free 1
      have HM := Lib.hid hm
      have hmt : m ≤ t := by have := HWL2.out; have := HL1.out; omega
      have hmc : m ≤ cap := by have := ownsRow_cap HO.out; omega
      clear hm
      by_cases hmn : m < t
      · have hsl := fun W => run_slice_to (some ⟨g, 0, none⟩) t cap m .i64 (m : Int) rfl hmc W
        go_wp2_with fail
        go_ret
        have hblk2 : Blk ((wr.setCell ⟨p, 0, none⟩ (.int .u64 (L1 : Int))).setCell ⟨p, 1, none⟩ (.slice (some ⟨g, 0, none⟩) m cap)) p 76 #[.int .u64 (L1 : Int), .slice (some ⟨g, 0, none⟩) m cap] := by simpa using HBK.out.set 1 (.slice (some ⟨g, 0, none⟩) m cap)
        have hown2 : ((wr.setCell ⟨p, 0, none⟩ (.int .u64 (L1 : Int))).setCell ⟨p, 1, none⟩ (.slice (some ⟨g, 0, none⟩) m cap)).ownsRow B 63 1 (.slice (some ⟨g, 0, none⟩) t cap) t (u64s V) := HO.out.kept (only_setCell (only_refl _ (some p)) (.inl rfl) _) (.inr (by simpa [Value.ownBlock] using hgp))
        have hown3 := ownsRow_cut hown2 m hmt
        rw [show (u64s V).take m = u64s (V.take m) from by simp [u64s, List.map_take]] at hown3
        have hlen : (V.take m).length = m := by rw [List.length_take, HVL.out]; omega
        refine ⟨rfl, V.take m, ⟨g, hbp, hgp, by rw [hlen, HL1.out]; exact hblk2, by rw [hlen]; exact hown3, fun x hx => HV5.out x (List.mem_of_mem_take hx)⟩, by rw [hlen, HL1.out]; have := HM.out; omega, fun j hj => ?_, ((HBEL.out.setCell hbp _).setCell hbp _)⟩
        rw [Bsm.take_bit _ _ _ (by have := HM.out; have := HL1.out; omega), HBIT.out]
      · obtain rfl : m = t := by omega
        go_wp2_with fail
        go_ret
        exact ⟨rfl, V, ⟨g, hbp, hgp, by rw [HVL.out, HL1.out]; exact HBK.out, by rw [HVL.out]; exact HO.out, HV5.out⟩, by rw [HVL.out, HL1.out]; have := HM.out; omega, fun j _ => HBIT.out j, HBEL.out.setCell hbp _⟩
end Go.Proofs.Ytbgmkojiklphmaa
