/- The walk of (*BitSet).InPlaceUnion, two bitsets of the same number of words. -/
import Derived.Test.YtbcbkieebelleaaBl
import Derived.Test.YtbcbkieebelleaaBsPopSl
import Derived.Deep.DeepCutAuto
namespace Go.Proofs.Ytbcbkieebelleaa
set_option linter.unusedVariables false
open Go.RowKit

/-- what stands between the lengths and the words of InPlaceUnion -/
def UnionCut (B p p2 g2 g0 n L0 : Nat) (ws : List Nat) (w wx : World) : Prop :=
  ∃ (g cap L : Nat) (ws1 : List Nat), (L0 ≤ L ∧ L ≤ 64 * n) ∧ Bs B wx p L ws1 cap ∧ wx.cell? ⟨p, 1, none⟩ = some (.slice (some ⟨g, 0, none⟩) n cap) ∧ g ≠ p2 ∧ g ≠ g2 ∧ ws1.length = n ∧ (∀ j, Bsm.bit ws1 j = Bsm.bit ws j) ∧ (g = g0 ∨ w.heap.size ≤ g) ∧ Below B w wx ∧ w.grownBy wx (some p)
def UnionLoop (f : Nat → Nat) (ws1 : List Nat) (B p L n cap g : Nat) (w : World) (k : Nat) (idx : Value) (wr : World) : Prop :=
  ∃ i : Nat, idx = .int .i64 (i : Int) ∧ i + k = n ∧ Bs B wr p L (Bsm.layf f ws1 i) cap ∧ wr.cell? ⟨p, 1, none⟩ = some (.slice (some ⟨g, 0, none⟩) n cap) ∧ Below B w wr ∧ w.grownBy wr (some g)
/-- what InPlaceUnion does -/
def UnionIs (B p g0 n L0 : Nat) (ws ws2 : List Nat) (w : World) (e : Ending) (w' : World) : Prop :=
  e = .returned (.tuple #[]) ∧ ∃ (ws' : List Nat) (cap L g : Nat), (L0 ≤ L ∧ L ≤ 64 * n) ∧ Bs B w' p L ws' cap ∧ ws'.length = n ∧ (∀ j, Bsm.bit ws' j = (Bsm.bit ws j || Bsm.bit ws2 j)) ∧ w'.cell? ⟨p, 1, none⟩ = some (.slice (some ⟨g, 0, none⟩) n cap) ∧ (g = g0 ∨ w.heap.size ≤ g) ∧
    Below B w w' ∧ w.heap.size ≤ w'.heap.size ∧ ∀ b, b < w.heap.size → b ≠ p → b ≠ g0 → w'.heap[b]? = w.heap[b]?

theorem getD_past (ws : List Nat) (q : Nat) (h : ws.length ≤ q) : ws.getD q 0 = 0 := by
  rw [List.getD_eq_getElem?_getD, List.getElem?_eq_none h]; rfl
theorem or_lt2 (X Y : Nat) (hX : X < 18446744073709551616) (hY : Y < 18446744073709551616) : X ||| Y < 18446744073709551616 := Nat.or_lt_two_pow (n := 64) hX hY

set_option maxRecDepth 100000 in
set_option maxHeartbeats 8000000 in
theorem union_any (B B2 p p2 g0 g2 L L2 n : Nat) (ws ws2 : List Nat) (cap cap2 : Nat) (w : World) (hb : Bs B w p L ws cap) (hb2 : Bs B2 w p2 L2 ws2 cap2) (hL : L ≤ 10000) (hL2 : L2 ≤ 10000) (hL0 : 0 < L2)
    (hwl : (L + 63) / 64 = n) (hwn : ws.length = n) (hwl2 : (L2 + 63) / 64 = n) (hwn2 : ws2.length = n) (hBw : B ≤ w.heap.size) (hcap : L < L2 → cap = ws.length)
    (hg0 : w.cell? ⟨p, 1, none⟩ = some (.slice (some ⟨g0, 0, none⟩) n cap)) (hg2 : w.cell? ⟨p2, 1, none⟩ = some (.slice (some ⟨g2, 0, none⟩) n cap2)) (hpp : p ≠ p2) (hpg : p ≠ g2) (hgp : g0 ≠ p2) (hgg : g0 ≠ g2) :
    Calls Try.prog 69 #[.pointer (some ⟨p, 0, none⟩), .pointer (some ⟨p2, 0, none⟩)] w (UnionIs B p g0 n L ws ws2 w) := by
  obtain ⟨gx, c0, c1, c2⟩ := hb.cells
  obtain ⟨gy, d0, d1, d2⟩ := hb2.cells
  rw [hwn] at c1 c2
  rw [hwn2] at d1 d2
  have hxx : gx = g0 := by rw [c1] at hg0; injection hg0 with h; injection h with h; injection h with h; injection h
  have hyy : gy = g2 := by rw [d1] at hg2; injection hg2 with h; injection h with h; injection h with h; injection h
  subst hxx hyy
  have hp2l : p2 < w.heap.size := World.block_lt_of_cell? w _ d0
  have hnpos : 0 < n := by omega
  have hgyl : gy < w.heap.size := World.block_lt_of_cell? w _ (d2 0 hnpos)
  have hgxl : gx < w.heap.size := World.block_lt_of_cell? w _ (c2 0 hnpos)
  have HB := Lib.hid hb
  have HB2 := Lib.hid hb2
  have HWN := Lib.hid hwn
  have HWN2 := Lib.hid hwn2
  have HWL := Lib.hid hwl
  have HWL2 := Lib.hid hwl2
  have HLT := Lib.hid hb.word_lt
  have HLT2 := Lib.hid hb2.word_lt
  have HD2 := Lib.hid d2
  have HD0 := Lib.hid d0
  have HD1 := Lib.hid d1
  have HC1 := Lib.hid c1
  have HCAP := Lib.hid hcap
  have HPP := Lib.hid hpp
  have HPG := Lib.hid hpg
  have HGP := Lib.hid hgp
  have HGG := Lib.hid hgg
  have HP2L := Lib.hid hp2l
  have HGYL := Lib.hid hgyl
  have HGXL := Lib.hid hgxl
  have hn9 : n ≤ 200 := by omega
  have hdn : decide (n < n) = false := by simp
  have hLpos : decide ((0 : Int) < (L2 : Int)) = true := decide_eq_true (by omega)
  have hw8 : IntKind.u64.wrap ((L2 : Int) - 1) = ((L2 - 1 : Nat) : Int) := by rw [IntKind.wrap_u64]; omega
  obtain ⟨i2, hi2⟩ : ∃ i2, L2 - 1 = i2 := ⟨_, rfl⟩
  rw [hi2] at hw8
  have hi3 : i2 + 1 ≤ L2 := by omega
  have hi4 : L2 ≤ i2 + 1 := by omega
  clear hb hb2 c2 d2 hwl hwn hwl2 hwn2 hcap hpp hpg hgp hgg hp2l hgyl hgxl hg0 hg2 hi2
  go_enter Try.func69, Try.ntmps69
  go_wp2_with fail
  refine (notnull_any _ _).mono ?_
  rintro e w' ⟨rfl, rfl⟩
  go_wp2_with fail
  refine (notnull_any _ _).mono ?_
  rintro e w' ⟨rfl, rfl⟩
  go_wp2_with fail
  refine (wordcount_any B2 p2 L2 ws2 cap2 _ HB2.out (by omega) n HWL2.out).mono ?_
  rintro e w' ⟨rfl, rfl⟩
  go_wp2_with fail
  refine (wordcount_any B p L ws cap _ HB.out (by omega) n HWL.out).mono ?_
  rintro e w' ⟨rfl, rfl⟩
  go_wp2_with fail
  go_quiet (fail)
  clear hw8
  go_upto_if 37 with fail
  go_cut [] (fun wx => UnionCut B p p2 gy gx n L ws w wx)
  case first =>
    by_cases hx : L ≤ i2
    · have hy2 : decide (L ≤ i2) = true := by simpa using hx
      have hw9 : IntKind.u64.wrap ((L2 : Int) - 1) = (i2 : Int) := by rw [IntKind.wrap_u64]; omega
      have hw9b : (L2 : Int) - 1 = (i2 : Int) := by omega
      have hcc := HCAP.out (by omega)
      have HBX : Hid (Bs B w p L ws ws.length) := by have := HB.out; rw [hcc] at this; exact this
      have HX := Lib.hid hx
      clear hx hcc hw9 hw9b
      go_wp2_with fail
      refine (extend_far B p L i2 _ (by omega) ws _ (HBX.out.drewN nq) (by rw [HWN.out]; exact HWL.out.symm) HX.out (by omega) hBw).mono ?_
      rintro e w7 ⟨rfl, ws7, cap7, j1, j2, j3, j4, j5, j6⟩
      obtain ⟨g7, e0, e1, e2⟩ := j1.cells
      have hl7 : ws7.length = n := by rw [j2]; have := HWL2.out; omega
      have hg7 : g7 = gx ∨ w.heap.size ≤ g7 := by
        rcases j6 _ _ _ e1 with h | h
        · left
          have h2 : w.cell? ⟨p, 1, none⟩ = some (.slice (some ⟨g7, 0, none⟩) ws.length ws.length) := h
          rw [HC1.out] at h2
          injection h2 with h2; injection h2 with h2; injection h2 with h2; injection h2 with h2; exact h2.symm
        · right; exact h
      rw [hl7] at e1
      have HCUT : Hid (UnionCut B p p2 gy gx n L ws w w7) := ⟨g7, cap7, i2 + 1, ws7, ⟨by have := HX.out; omega, by have := HWL2.out; omega⟩, j1, e1, by rcases hg7 with h | h; rw [h]; exact HGP.out; have := HP2L.out; omega, by rcases hg7 with h | h; rw [h]; exact HGG.out; have := HGYL.out; omega, hl7, j3, hg7, (below_drewN (Below.refl _ _) nq).trans j4, (only_drewN (only_refl _ _) nq).trans j5⟩
      clear e0 e1 e2 hl7 hg7 j1 j2 j3 j4 j5 j6
      go_wp2_with fail
      go_meet
      exact HCUT.out
    · have hy2 : decide (L ≤ i2) = false := by simpa using hx
      go_wp2_with fail
      go_meet
      exact ⟨gx, cap, L, ws, ⟨Nat.le_refl _, by have := HWL.out; omega⟩, HB.out.drewN nq, HC1.out, HGP.out, HGG.out, HWN.out, fun _ => rfl, .inl rfl, below_drewN (Below.refl _ _) nq, only_drewN (only_refl _ _) nq⟩
  case rest =>
    obtain ⟨g, cap1, L1, ws1, hLL, hbs, hc, hgp2, hgg2, hl1, hbit, hgx, hbel, hgr⟩ := hcut
    have hpn : some p2 ≠ some p := by simpa using (Ne.symm HPP.out)
    have hgn : some gy ≠ some p := by simpa using (Ne.symm HPG.out)
    have d3 := hgr.cell HD1.out hpn
    obtain ⟨n1, hn1⟩ : ∃ n1, n1 + 1 = n := ⟨n - 1, by omega⟩
    have hw1 : IntKind.i64.wrap ((n : Int) - 1) = (n1 : Int) := by rw [IntKind.wrap_i64]; omega
    obtain ⟨gz, z0, z1, z2⟩ := hbs.cells
    have hzz : gz = g := by rw [hc] at z1; injection z1 with h; injection h with h; injection h with h; injection h with h; exact h.symm
    subst hzz
    have e1 := z2 n1 (by omega)
    have e2 := hgr.cell (HD2.out n1 (by omega)) hgn
    have hpos : decide ((0 : Int) < (n : Int)) = true := decide_eq_true (by omega)
    have hl4 : (n1 : Int) < (n : Int) := by omega
    have hl5 : (0 : Int) ≤ (n1 : Int) := by omega
    have hl6 : n1 < n := by omega
    have hl7 : n ≤ n1 + 1 := by omega
    obtain ⟨f, hf⟩ : ∃ f : Nat → Nat, f = fun q => ws1.getD q 0 ||| ws2.getD q 0 := ⟨_, rfl⟩
    have HF := fun i => Lib.hid (show f i = ws1.getD i 0 ||| ws2.getD i 0 by rw [hf])
    have HLL := Lib.hid hLL
    have HBS := Lib.hid hbs
    have HBIT := Lib.hid hbit
    have HGX := Lib.hid hgx
    have HBEL := Lib.hid hbel
    have HGR := Lib.hid hgr
    have HL1 := Lib.hid hl1
    have HLT1 := Lib.hid hbs.word_lt
    have HGZL := Lib.hid (World.block_lt_of_cell? wc _ (z2 0 (by omega)))
    have HZP : Hid (gz ≠ p2 ∧ gz ≠ gy) := ⟨hgp2, hgg2⟩
    have HWZ := Lib.hid hgr.size
    clear hLL c0 c1 d0 d1 hn1 z0 z1 z2 hf hbs hbit hgx hbel hgr hl1 hgp2 hgg2 hpn hgn
    go_wp2_with fail
    go_quiet (fail)
    go_wp2_with fail
    go_loopg [7] n (fun k idx wr => UnionLoop f ws1 B p L1 n cap1 gz wc k idx wr)
    case atStart => exact ⟨0, rfl, by omega, HBS.out.drewN _, hc, below_drewN (Below.refl _ _) _, only_drewN (only_refl _ _) _⟩
    case round =>
      obtain ⟨i, rfl, hik, hbs, hc5, hbel, hgr⟩ := hrel
      by_cases hi : i < n
      · cases gk with
        | zero => omega
        | succ k =>
          have hX := HLT1.out i
          have hY := HLT2.out i
          have hi3 : (i : Int) < (n : Int) := by omega
          have hi4 : (0 : Int) ≤ (i : Int) := by omega
          have hcy := hgr.cell (HGR.out.cell (HD2.out i hi) (by simpa using (Ne.symm HPG.out))) (by simpa using (Ne.symm HZP.out.2))
          have hl2 : (Bsm.layf f ws1 i).length = n := by rw [Bsm.layf_len, HL1.out]
          have hfi := (HF i).out
          have hgt : (Bsm.layf f ws1 i).getD i 0 = ws1.getD i 0 := by rw [Bsm.layf_getD _ _ _ _ (by rw [HL1.out]; omega), if_neg (by omega)]
          obtain ⟨X, hXX⟩ : ∃ X, ws1.getD i 0 = X := ⟨_, rfl⟩
          obtain ⟨Y, hYY⟩ : ∃ Y, ws2.getD i 0 = Y := ⟨_, rfl⟩
          rw [hXX] at hX hfi hgt
          rw [hYY] at hcy hY hfi
          have hput := Bs.put hbs (by rw [hl2]; exact hc5) i (f i) (by rw [hfi]; exact or_lt2 X Y hX hY) (by omega)
          have hlay : (Bsm.layf f ws1 i).set i (f i) = Bsm.layf f ws1 (i + 1) := rfl
          rw [hlay, hl2] at hput
          have hff := hput.2.2.1
          have hc2 := hput.2.2.2.1
          rw [hgt] at hc2
          have hop : bits BinOp.or IntKind.u64 (X : Int) (Y : Int) = ((f i : Nat) : Int) := by rw [hfi]; exact u64_or_nat X Y hX hY
          have HX := Lib.hid hop
          have HP := Lib.hid hput
          have HG := Lib.hid (only_setCell (p := ⟨gz, i, none⟩) hgr (.inl rfl) (.int .u64 ((f i : Nat) : Int)))
          clear hbs hput hl2 hX hY hlay hXX hYY hop hfi hgt hgr
          go_wp2_with fail
          refine wp_region_still_tail 9 (by kernel_rfl) (by kernel_rfl) ?_
          simp only [List.take_succ_cons, List.take_zero, List.drop_succ_cons, List.drop_zero]
          repeat still_step
          refine wpStill_nil ?_
          change wpList _ _ _ _ _ wr.drew
          go_wp2_with fail
          rw [HX.out]
          go_roundg k
          case measure => omega
          case rel => exact ⟨i + 1, by go_num, by omega, HP.out.1.drewN 1, HP.out.2.2.2.2, hbel.trans HP.out.2.1.drew, only_drew HG.out⟩
      · obtain rfl : i = n := by omega
        have d9 := hgr.cell d3 (by simpa using (Ne.symm HZP.out.1))
        have HBS9 := Lib.hid hbs
        have HBEL9 := Lib.hid hbel
        have HGR9 := Lib.hid hgr
        clear hbs hbel hgr hi
        go_wp2_with fail
        go_end0
        refine ⟨rfl, Bsm.layf f ws1 i, cap1, L1, gz, HLL.out, HBS9.out, by rw [Bsm.layf_len]; exact HL1.out, fun j => ?_, hc5, HGX.out, HBEL.out.trans HBEL9.out, Nat.le_trans HWZ.out HGR9.out.size, fun b h1 h2 h3 => ?_⟩
        · rw [← HBIT.out]
          unfold Bsm.bit
          rw [Bsm.layf_getD _ _ _ _ (by rw [HL1.out]; exact Nat.le_refl _)]
          by_cases h : j / 64 < i
          · rw [if_pos h, (HF _).out, Nat.testBit_or]
          · rw [if_neg h, getD_past ws1 _ (by rw [HL1.out]; omega), getD_past ws2 _ (by rw [HWN2.out]; omega)]
            simp
        · have hbz : b ≠ gz := by
            rcases HGX.out with h | h
            · rw [h]; exact h3
            · omega
          exact (HGR9.out.block b (by have := HWZ.out; omega) (by simpa using hbz)).trans (HGR.out.block b h1 (by simpa using h2))
end Go.Proofs.Ytbcbkieebelleaa
