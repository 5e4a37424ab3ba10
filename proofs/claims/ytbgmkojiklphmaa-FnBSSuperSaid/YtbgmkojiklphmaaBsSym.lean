/- Walks of BitSet's SymmetricDifference, InPlaceSymmetricDifference, SymmetricDifferenceCardinality. -/
import Derived.Test.YtbgmkojiklphmaaBsInter
namespace Go.Proofs.Ytbgmkojiklphmaa
set_option linter.unusedVariables false
open Go.RowKit
attribute [local irreducible] Pop.pc Bsm.cnt

theorem xor_lt2 (X Y : Nat) (hX : X < 18446744073709551616) (hY : Y < 18446744073709551616) : X ^^^ Y < 18446744073709551616 := Nat.xor_lt_two_pow (n := 64) hX hY

def SymLoop (f : Nat → Nat) (zs : List Nat) (r L n nc cap g' : Nat) (w : World) (k : Nat) (idx : Value) (wr : World) : Prop :=
  ∃ i : Nat, idx = .int .i64 (i : Int) ∧ i + k = n ∧ Bs w.heap.size wr r L (Bsm.layf f zs i) cap ∧ wr.cell? ⟨r, 1, none⟩ = some (.slice (some ⟨g', 0, none⟩) nc cap) ∧ Below w.heap.size w wr

set_option maxRecDepth 100000 in
set_option maxHeartbeats 1000000 in
theorem sym_core (q q2 : Addr) (B B2 p p2 L L2 : Nat) (ws ws2 : List Nat) (cap cap2 : Nat) (w : World) (hb : Bs B w p L ws cap) (hb2 : Bs B2 w p2 L2 ws2 cap2) (hL : L2 ≤ 100000) (h : L ≤ L2)
    (hwl : ws.length = (L + 63) / 64) (hwl2 : ws2.length = (L2 + 63) / 64)
    (hs : Calls Try.prog 97 #[.pointer (some q), .pointer (some q2)] w fun e w' => e = .returned (.tuple #[.pointer (some ⟨p, 0, none⟩), .pointer (some ⟨p2, 0, none⟩)]) ∧ ∃ nq, w' = w.drewN nq) :
    Calls Try.prog 79 #[.pointer (some q), .pointer (some q2)] w fun e w' => ∃ r ws' cap', e = .returned (.pointer (some ⟨r, 0, none⟩)) ∧
      Bs w.heap.size w' r L2 ws' cap' ∧ L2 ≤ 64 * ws'.length ∧ (∀ j, Bsm.bit ws' j = (Bsm.bit ws j != Bsm.bit ws2 j)) ∧ Below w.heap.size w w' := by
  obtain ⟨g, c0, c1, c2⟩ := hb.cells
  obtain ⟨g2, d0, d1, d2⟩ := hb2.cells
  obtain ⟨n, hn⟩ : ∃ n, ws.length = n := ⟨_, rfl⟩
  obtain ⟨n2, hn2⟩ : ∃ n2, ws2.length = n2 := ⟨_, rfl⟩
  have hlt := hb.word_lt
  have hlt2 := hb2.word_lt
  obtain ⟨f, hf⟩ : ∃ f : Nat → Nat, f = fun q => ws.getD q 0 ^^^ ws2.getD q 0 := ⟨_, rfl⟩
  have hbt : ∀ j, Bsm.bit (Bsm.layf f ws2 n) j = (Bsm.bit ws j != Bsm.bit ws2 j) := by
    intro j
    unfold Bsm.bit
    rw [Bsm.layf_getD _ _ _ _ (by omega)]
    by_cases hj : j / 64 < n
    · rw [if_pos hj, hf, Nat.testBit_xor]
    · rw [if_neg hj]
      have : ws.getD (j / 64) 0 = 0 := by rw [List.getD_eq_getElem?_getD, List.getElem?_eq_none (by omega)]; rfl
      rw [this, Nat.zero_testBit]
      cases (ws2.getD (j / 64) 0).testBit (j % 64) <;> rfl
  have hlen : (Bsm.layf f ws2 n).length = n2 := by rw [Bsm.layf_len, hn2]
  rw [hn] at c1 c2
  rw [hn2] at d1 d2
  have hnn : n ≤ n2 := by omega
  have hn3 : n2 ≤ 100000 := by omega
  have hL2n : L2 ≤ 64 * n2 := by omega
  have HF := fun i => Lib.hid (show f i = ws.getD i 0 ^^^ ws2.getD i 0 by rw [hf])
  have HLT := Lib.hid hlt
  have HLT2 := Lib.hid hlt2
  have HBT := Lib.hid hbt
  have HC2 := Lib.hid c2
  have HD2 := Lib.hid d2
  have HLEN := Lib.hid hlen
  have HS := Lib.hid hs
  have HB2 := Lib.hid hb2
  have HWL2 := Lib.hid hwl2
  have HN2 := Lib.hid hn2
  clear hb hb2 hlt hlt2 hbt hn hn2 c2 d2 hlen hwl hwl2 hf hs
  go_enter Try.func79, Try.ntmps79
  go_wp2_with fail
  refine (notnull_any _ _).mono ?_
  rintro e w' ⟨rfl, rfl⟩
  go_wp2_with fail
  refine (notnull_any _ _).mono ?_
  rintro e w' ⟨rfl, rfl⟩
  go_wp2_with fail
  refine HS.out.mono ?_
  rintro e w' ⟨rfl, nq, rfl⟩
  go_wp2_with fail
  refine (clone_any B2 p2 L2 ws2 cap2 _ (HB2.out.drewN nq) HWL2.out (by omega)).mono ?_
  rintro e w1 ⟨r, rfl, hbs, hb1⟩
  have hb1 : Below w.heap.size w w1 := (below_drewN (Below.refl _ _) nq).trans hb1
  obtain ⟨cp, hcp⟩ : ∃ cp, (L2 + 63) / 64 = cp := ⟨_, rfl⟩
  rw [hcp] at hbs
  replace hbs : Bs w.heap.size w1 r L2 ws2 cp := hbs
  obtain ⟨g', e0, e1, e2⟩ := hbs.cells
  rw [HN2.out] at e1
  have HBS := Lib.hid hbs
  clear hbs e2 e0 hcp
  have c1' : w1.cell? ⟨p, 1, none⟩ = some (.slice (some ⟨g, 0, none⟩) n cap) := (hb1.cell (World.block_lt_of_cell? w _ c1)).trans c1
  go_wp2_with fail
  go_loopg [24] n (fun k idx wr => SymLoop f ws2 r L2 n n2 cp g' w k idx wr)
  case atStart => exact ⟨0, rfl, by omega, HBS.out, e1, hb1⟩
  case round =>
    obtain ⟨i, rfl, hik, hbs, hc, hbel⟩ := hrel
    by_cases hi : i < n
    · cases gk with
      | zero => omega
      | succ k =>
        have hX := HLT.out i
        have hY := HLT2.out i
        have hi2 : i < n2 := by omega
        have hi3 : (i : Int) < (n2 : Int) := by omega
        have hi4 : (0 : Int) ≤ (i : Int) := by omega
        have hcx := (hbel.cell (World.block_lt_of_cell? w _ (HC2.out i hi))).trans (HC2.out i hi)
        have hcy := (hbel.cell (World.block_lt_of_cell? w _ (HD2.out i (by omega)))).trans (HD2.out i (by omega))
        have d1' := (hbel.cell (World.block_lt_of_cell? w _ d1)).trans d1
        have hl : (Bsm.layf f ws2 i).length = n2 := by rw [Bsm.layf_len, HN2.out]
        have hfi := (HF i).out
        obtain ⟨X, hXX⟩ : ∃ X, ws.getD i 0 = X := ⟨_, rfl⟩
        obtain ⟨Y, hYY⟩ : ∃ Y, ws2.getD i 0 = Y := ⟨_, rfl⟩
        rw [hXX] at hcx hX hfi
        rw [hYY] at hcy hY hfi
        have hput := Bs.put hbs (by rw [hl]; exact hc) i (f i) (by rw [hfi]; exact xor_lt2 X Y hX hY) (by omega)
        have hlay : (Bsm.layf f ws2 i).set i (f i) = Bsm.layf f ws2 (i + 1) := rfl
        rw [hlay, hl] at hput
        have hff := hput.2.2.1
        have hc2 := hput.2.2.2.1
        have hop : bits BinOp.xor IntKind.u64 (X : Int) (Y : Int) = ((f i : Nat) : Int) := by rw [hfi]; exact u64_xor_nat X Y hX hY
        have HX := Lib.hid hop
        have HP := Lib.hid hput
        clear hbs hput hl hX hY hlay hXX hYY hop hfi
        go_wp2_with fail
        refine wp_region_still_tail 14 (by kernel_rfl) (by kernel_rfl) ?_
        simp only [List.take_succ_cons, List.take_zero, List.drop_succ_cons, List.drop_zero]
        repeat still_step
        refine wpStill_nil ?_
        change wpList _ _ _ _ _ wr.drew
        go_wp2_with fail
        rw [HX.out]
        go_roundg k
        case measure => omega
        case rel => exact ⟨i + 1, by go_num, by omega, HP.out.1.drewN 1, HP.out.2.2.2.2, hbel.trans (HP.out.2.1.drew)⟩
    · obtain rfl : i = n := by omega
      go_wp2_with fail
      go_ret
      exact ⟨r, _, cp, rfl, hbs, by rw [HLEN.out]; exact hL2n, HBT.out, hbel⟩

def InY (f : Nat → Nat) (zs : List Nat) (B p L nc cap g lo hi : Nat) (w w1 : World) (k : Nat) (idx : Value) (wr : World) : Prop :=
  ∃ i : Nat, idx = .int .i64 (i : Int) ∧ lo ≤ i ∧ i + k = hi ∧ Bs B wr p L (Bsm.layf f zs i) cap ∧ wr.cell? ⟨p, 1, none⟩ = some (.slice (some ⟨g, 0, none⟩) nc cap) ∧ Below B w wr ∧ w1.grownBy wr (some g)
def InX (f : Nat → Nat) (zs : List Nat) (B p L nc cap g lo hi : Nat) (w : World) (k : Nat) (idx : Value) (wr : World) : Prop :=
  ∃ i : Nat, idx = .int .i64 (i : Int) ∧ lo ≤ i ∧ i + k = hi ∧ Bs B wr p L (Bsm.layf f zs i) cap ∧ wr.cell? ⟨p, 1, none⟩ = some (.slice (some ⟨g, 0, none⟩) nc cap) ∧ Below B w wr ∧ w.grownBy wr (some g)

set_option maxRecDepth 100000 in
set_option maxHeartbeats 8000000 in
theorem insym_keep (B B2 p p2 L L2 : Nat) (ws ws2 : List Nat) (cap2 : Nat) (w : World) (hb : Bs B w p L ws ws.length) (hb2 : Bs B2 w p2 L2 ws2 cap2) (hL : L ≤ 10000) (hL2 : L2 ≤ 10000)
    (hwl : ws.length = (L + 63) / 64) (hwl2 : ws2.length = (L2 + 63) / 64) (hu : Under B2 p w) (hBw : B ≤ w.heap.size) (hLL : L2 ≤ L) :
    Calls Try.prog 80 #[.pointer (some ⟨p, 0, none⟩), .pointer (some ⟨p2, 0, none⟩)] w fun e w' => e = .returned (.tuple #[]) ∧
      ∃ ws' cap', Bs B w' p (max L L2) ws' cap' ∧ max L L2 ≤ 64 * ws'.length ∧ (∀ j, Bsm.bit ws' j = (Bsm.bit ws j != Bsm.bit ws2 j)) ∧ Below B w w' := by
  obtain ⟨g, c0, c1, c2⟩ := hb.cells
  obtain ⟨g2, d0, d1, d2⟩ := hb2.cells
  have hgU := hu.2 _ _ _ c1
  have hp2 : B2 ≤ p2 := by obtain ⟨_, h, _⟩ := hb2; exact h
  have hg2 : B2 ≤ g2 ∧ g2 < w.heap.size := by
    obtain ⟨g3, _, _, h3, h4, _⟩ := hb2
    have := h3.cell 1 rfl
    rw [d1] at this
    obtain rfl : g2 = g3 := by simpa using this
    exact h4.lt g2 rfl
  have hp2s : p2 < w.heap.size := World.block_lt_of_cell? w _ d0
  have hpp : p2 ≠ p := by have := hu.1; omega
  have hgp2 : g2 ≠ p := by have := hu.1; omega
  have hgp : p2 ≠ g := by have : g < B2 := hgU; omega
  have hgg : g2 ≠ g := by have : g < B2 := hgU; omega
  obtain ⟨n, hn⟩ : ∃ n, ws.length = n := ⟨_, rfl⟩
  obtain ⟨n2, hn2⟩ : ∃ n2, ws2.length = n2 := ⟨_, rfl⟩
  obtain ⟨l, hl⟩ : ∃ l, min n n2 = l := ⟨_, rfl⟩
  have hout : ∀ (zs : List Nat) (j : Nat), 64 * zs.length ≤ j → Bsm.bit zs j = false := by
    intro zs j hj
    unfold Bsm.bit
    rw [List.getD_eq_getElem?_getD, List.getElem?_eq_none (by omega)]
    exact Nat.zero_testBit _
  have hl' : l = n2 := by omega
  obtain ⟨f, hf⟩ : ∃ f : Nat → Nat, f = fun q => ws.getD q 0 ^^^ ws2.getD q 0 := ⟨_, rfl⟩
  have hbt : ∀ j, Bsm.bit (Bsm.layf f ws l) j = (Bsm.bit ws j != Bsm.bit ws2 j) := by
    intro j
    unfold Bsm.bit
    rw [Bsm.layf_getD _ _ _ _ (by omega)]
    by_cases hj : j / 64 < l
    · rw [if_pos hj, hf, Nat.testBit_xor]
    · rw [if_neg hj]
      have : ws2.getD (j / 64) 0 = 0 := by rw [List.getD_eq_getElem?_getD, List.getElem?_eq_none (by omega)]; rfl
      rw [this, Nat.zero_testBit]
      cases (ws.getD (j / 64) 0).testBit (j % 64) <;> rfl
  have hfi : ∀ i, i < l → f i = ws.getD i 0 ^^^ ws2.getD i 0 := fun i _ => by rw [hf]
  have hlen2 : (L2 + 63) / 64 = l := by omega
  have hlen1 : (L + 63) / 64 = n := by omega
  have hln : l ≤ n := by omega
  have hn5 : n ≤ 10000 := by omega
  have hLn : L ≤ 64 * n := by omega
  have hln2 : l ≤ n2 := by omega
  have hd1 : decide (n < l) = false := by simp; omega
  have hd4 : decide (l < n2) = false := by simp; omega
  rw [hn] at c1 c2 hb
  rw [hn2] at d1 d2
  have HLZ := Lib.hid hb.word_lt
  have HLT2 := Lib.hid hb2.word_lt
  have HBT := Lib.hid hbt
  have HCZ := Lib.hid c2
  have HDZ := Lib.hid d2
  have DZ1 := Lib.hid d1
  have HFI := Lib.hid hfi
  have HNZ := Lib.hid hn
  have HB := Lib.hid hb
  have HB2 := Lib.hid hb2
  have HL1 := Lib.hid hlen1
  have HL2 := Lib.hid hlen2
  have HQ : Hid (some p2 ≠ some g ∧ some g2 ≠ some g) := ⟨by simpa using hgp, by simpa using hgg⟩
  have HM : Hid (max L L2 = L) := show _ = _ by omega
  clear hb hb2 hbt hn hn2 c2 d2 hwl hwl2 hf hu hgU hp2 hg2 hgp hgg hgp2 hpp hl hl' hout hfi hlen1
  have d1z := d1
  by_cases hx : L2 = 0
  · have hd5 : decide (0 < L2) = false := by simp; omega
    have hd6 : decide (0 < l) = false := by simp; omega
    have HLL0 : Hid (Bsm.layf f ws l = ws) := by
      have : l = 0 := by omega
      rw [this]; exact rfl
    clear hx hlen2 hLL
    go_enter Try.func80, Try.ntmps80
    go_wp2_with fail
    refine (notnull_any _ _).mono ?_
    rintro e w' ⟨rfl, rfl⟩
    go_wp2_with fail
    refine (notnull_any _ _).mono ?_
    rintro e w' ⟨rfl, rfl⟩
    go_wp2_with fail
    refine (wordcount_any B2 p2 L2 ws2 cap2 _ HB2.out (by omega) l HL2.out).mono ?_
    rintro e w' ⟨rfl, rfl⟩
    go_wp2_with fail
    refine (wordcount_any B p L ws n _ HB.out (by omega) n HL1.out).mono ?_
    rintro e w' ⟨rfl, rfl⟩
    go_wp2_with fail
    go_quiet (fail)
    go_wp2_with fail
    go_end0
    exact ⟨rfl, ws, n, by rw [HM.out]; exact HB.out.drewN nq, by rw [HNZ.out, HM.out]; exact hLn, by have := HBT.out; rw [HLL0.out] at this; exact this, below_drewN (Below.refl _ _) nq⟩
  · have hd5 : decide (0 < L2) = true := by simp; omega
    have hw8 : IntKind.u64.wrap ((L2 : Int) - 1) = ((L2 - 1 : Nat) : Int) := by rw [IntKind.wrap_u64]; omega
    have hl00 : 0 < l := by omega
    have hd7 : decide (L ≤ L2 - 1) = false := by simp; omega
    obtain ⟨i2, hi2⟩ : ∃ i2, L2 - 1 = i2 := ⟨_, rfl⟩
    rw [hi2] at hw8 hd7
    have hi2L : i2 < L := by omega
    clear hx hlen2 hLL hi2
    go_enter Try.func80, Try.ntmps80
    go_wp2_with fail
    refine (notnull_any _ _).mono ?_
    rintro e w' ⟨rfl, rfl⟩
    go_wp2_with fail
    refine (notnull_any _ _).mono ?_
    rintro e w' ⟨rfl, rfl⟩
    go_wp2_with fail
    refine (wordcount_any B2 p2 L2 ws2 cap2 _ HB2.out (by omega) l HL2.out).mono ?_
    rintro e w' ⟨rfl, rfl⟩
    go_wp2_with fail
    refine (wordcount_any B p L ws n _ HB.out (by omega) n HL1.out).mono ?_
    rintro e w' ⟨rfl, rfl⟩
    go_wp2_with fail
    go_quiet (fail)
    clear hw8
    obtain ⟨l1, hl1⟩ : ∃ l1, l1 + 1 = l := ⟨l - 1, by omega⟩
    have hw1 : IntKind.i64.wrap ((l : Int) - 1) = (l1 : Int) := by rw [IntKind.wrap_i64]; omega
    have e1 := HCZ.out l1 (by omega)
    have e2 := HDZ.out l1 (by omega)
    have hd2 : decide (0 < l) = true := by simp; omega
    have hl4 : (l1 : Int) < (n : Int) := by omega
    have hl5 : (l1 : Int) < (n2 : Int) := by omega
    have hl6 : l1 < n := by omega
    have hl7 : l1 < n2 := by omega
    have hl8 : l1 + 1 ≤ l := by omega
    have hl9 : l ≤ l1 + 1 := by omega
    clear hl1
    go_wp2_with fail
    go_quiet (fail)
    go_wp2_with fail
    go_loopg [7] l (fun k idx wr => InX f ws B p L n n g 0 l w k idx wr)
    case atStart => exact ⟨0, rfl, Nat.le_refl _, by omega, HB.out.drewN _, c1, below_drewN (Below.refl _ _) _, only_drewN (only_refl _ _) _⟩
    case round =>
      obtain ⟨i, rfl, hlo, hik, hbs, hc, hbel, hgr⟩ := hrel
      by_cases hi : i < l
      · cases gk with
        | zero => omega
        | succ k =>
          have hX := HLZ.out i
          have hY := HLT2.out i
          have hi2 : i < n2 := by omega
          have hi3 : (i : Int) < (n2 : Int) := by omega
          have hi4 : (0 : Int) ≤ (i : Int) := by omega
          have hi5 : i < n := by omega
          have hi6 : (i : Int) < (n : Int) := by omega
          have hcy := hgr.cell (HDZ.out i hi2) HQ.out.2
          have hl2 : (Bsm.layf f ws i).length = n := by rw [Bsm.layf_len, HNZ.out]
          have hfi := HFI.out i hi
          have hgt : (Bsm.layf f ws i).getD i 0 = ws.getD i 0 := by rw [Bsm.layf_getD _ _ _ _ (by rw [HNZ.out]; omega), if_neg (by omega)]
          obtain ⟨X, hXX⟩ : ∃ X, ws.getD i 0 = X := ⟨_, rfl⟩
          obtain ⟨Y, hYY⟩ : ∃ Y, ws2.getD i 0 = Y := ⟨_, rfl⟩
          rw [hXX] at hX hfi hgt
          rw [hYY] at hcy hY hfi
          have hput := Bs.put hbs (by rw [hl2]; exact hc) i (f i) (by rw [hfi]; exact xor_lt2 X Y hX hY) (by omega)
          have hlay : (Bsm.layf f ws i).set i (f i) = Bsm.layf f ws (i + 1) := rfl
          rw [hlay, hl2] at hput
          have hff := hput.2.2.1
          have hc2 := hput.2.2.2.1
          rw [hgt] at hc2
          have hop : bits BinOp.xor IntKind.u64 (X : Int) (Y : Int) = ((f i : Nat) : Int) := by rw [hfi]; exact u64_xor_nat X Y hX hY
          have HX := Lib.hid hop
          have HP := Lib.hid hput
          have HG := Lib.hid (only_setCell (p := ⟨g, i, none⟩) hgr (.inl rfl) (.int .u64 ((f i : Nat) : Int)))
          clear hbs hput hl2 hX hY hlay hXX hYY hop hfi hgt hgr
          go_wp2_with fail
          refine wp_region_still_tail 9 (by kernel_rfl) (by kernel_rfl) ?_
          simp only [List.take_succ_cons, List.take_zero, List.drop_succ_cons, List.drop_zero]
          repeat still_step
          refine wpStill_nil ?_
          change wpList _ _ _ _ _ wr.drew
          go_wp2_with fail
          rw [HX.out]
          go_roundg k
          case measure => omega
          case rel => exact ⟨i + 1, by go_num, by omega, by omega, HP.out.1.drewN 1, HP.out.2.2.2.2, hbel.trans (HP.out.2.1.drew), only_drew HG.out⟩
      · obtain rfl : i = l := by omega
        obtain ⟨w9, hw9⟩ : ∃ w9, w9 = wr := ⟨_, rfl⟩
        subst hw9
        have HBS9 := Lib.hid hbs
        have HGR9 := Lib.hid hgr
        have HBL9 := Lib.hid hbel
        have d1n := hgr.cell DZ1.out HQ.out.1
        clear hbs hgr d1z e1 e2
        obtain ⟨l, hll⟩ : ∃ l, l = i := ⟨_, rfl⟩
        subst hll
        go_wp2_with fail
        go_end0
        exact ⟨rfl, Bsm.layf f ws l, n, by rw [HM.out]; first | exact HBS9.out | exact HBS9.out.drewN _, by rw [Bsm.layf_len, HNZ.out, HM.out]; exact hLn, HBT.out, by first | exact HBL9.out | exact below_drewN HBL9.out _⟩

set_option maxRecDepth 100000 in
set_option maxHeartbeats 8000000 in
theorem insym_more (B B2 p p2 L L2 : Nat) (ws ws2 : List Nat) (cap2 : Nat) (w : World) (hb : Bs B w p L ws ws.length) (hb2 : Bs B2 w p2 L2 ws2 cap2) (hL : L ≤ 10000) (hL2 : L2 ≤ 10000)
    (hwl : ws.length = (L + 63) / 64) (hwl2 : ws2.length = (L2 + 63) / 64) (hu : Under B2 p w) (hBw : B ≤ w.heap.size) (hLL : L < L2) (hnn : (L + 63) / 64 < (L2 + 63) / 64) :
    Calls Try.prog 80 #[.pointer (some ⟨p, 0, none⟩), .pointer (some ⟨p2, 0, none⟩)] w fun e w' => e = .returned (.tuple #[]) ∧
      ∃ ws' cap', Bs B w' p (max L L2) ws' cap' ∧ max L L2 ≤ 64 * ws'.length ∧ (∀ j, Bsm.bit ws' j = (Bsm.bit ws j != Bsm.bit ws2 j)) ∧ Below B w w' := by
  obtain ⟨g, c0, c1, c2⟩ := hb.cells
  obtain ⟨g2, d0, d1, d2⟩ := hb2.cells
  have hgU := hu.2 _ _ _ c1
  have hp2 : B2 ≤ p2 := by obtain ⟨_, h, _⟩ := hb2; exact h
  have hg2 : B2 ≤ g2 ∧ g2 < w.heap.size := by
    obtain ⟨g3, _, _, h3, h4, _⟩ := hb2
    have := h3.cell 1 rfl
    rw [d1] at this
    obtain rfl : g2 = g3 := by simpa using this
    exact h4.lt g2 rfl
  have hp2s : p2 < w.heap.size := World.block_lt_of_cell? w _ d0
  have hpp : p2 ≠ p := by have := hu.1; omega
  have hgp2 : g2 ≠ p := by have := hu.1; omega
  have hgp : p2 ≠ g := by have : g < B2 := hgU; omega
  have hgg : g2 ≠ g := by have : g < B2 := hgU; omega
  obtain ⟨n, hn⟩ : ∃ n, ws.length = n := ⟨_, rfl⟩
  obtain ⟨n2, hn2⟩ : ∃ n2, ws2.length = n2 := ⟨_, rfl⟩
  obtain ⟨l, hl⟩ : ∃ l, min n n2 = l := ⟨_, rfl⟩
  have hout : ∀ (zs : List Nat) (j : Nat), 64 * zs.length ≤ j → Bsm.bit zs j = false := by
    intro zs j hj
    unfold Bsm.bit
    rw [List.getD_eq_getElem?_getD, List.getElem?_eq_none (by omega)]
    exact Nat.zero_testBit _
  have hl' : l = n := by omega
  obtain ⟨i2, hi2⟩ : ∃ i2, L2 - 1 = i2 := ⟨_, rfl⟩
  have hw8 : IntKind.u64.wrap ((L2 : Int) - 1) = (i2 : Int) := by rw [IntKind.wrap_u64]; omega
  have hd5 : decide (0 < L2) = true := by simp; omega
  have hd7 : decide (L ≤ i2) = true := by simp; omega
  have hi3 : i2 + 1 ≤ L2 := by omega
  have hi4 : L2 ≤ i2 + 1 := by omega
  have hlen2 : (L2 + 63) / 64 = n2 := by omega
  have hlen1 : (L + 63) / 64 = n := by omega
  have hlen3 : (L + 63) / 64 = l := by omega
  have hn2e : (i2 + 64) / 64 = n2 := by omega
  have hl2l : n2 = l → (L2 + 63) / 64 = l := by intro h; omega
  have hn5 : n2 ≤ 10000 := by omega
  have hln : l ≤ n2 := by omega
  have hln4 : l ≤ n := by omega
  have hnl4 : n ≤ l := by omega
  have HOUT : Hid (∀ j, 64 * l ≤ j → Bsm.bit ws j = false) := fun j hj => hout ws j (by omega)
  have HWL := Lib.hid hwl
  rw [hn] at c1 c2
  rw [hn2] at d1 d2
  have hb' := hb
  rw [hn] at hb'
  have HBN := Lib.hid hb'
  have HLT2 := Lib.hid hb2.word_lt
  have HD2 := Lib.hid d2
  have HN := Lib.hid hn
  have HN2 := Lib.hid hn2
  have HN2E := Lib.hid hn2e
  have HB := Lib.hid hb
  have HB2 := Lib.hid hb2
  have HL1 := Lib.hid hlen1
  have HL2 := Lib.hid hlen2
  have HL3 := Lib.hid hlen3
  have HL4 := Lib.hid hl2l
  have HG2 : Hid (p2 < w.heap.size ∧ g2 < w.heap.size) := ⟨hp2s, hg2.2⟩
  have HQ : Hid (some p2 ≠ some g ∧ some g2 ≠ some g) := ⟨by simpa using hgp, by simpa using hgg⟩
  have HQP : Hid (some p2 ≠ some p ∧ some g2 ≠ some p) := ⟨by simpa using hpp, by simpa using hgp2⟩
  have hnn2 : n < n2 := by omega
  clear hb hb' hb2 hn hn2 c2 d2 hwl hwl2 hu hgU hp2 hg2 hgp hgg hgp2 hpp hl hl' hout hlen1 hlen2 hlen3 hn2e hl2l hi2 hp2s
  go_enter Try.func80, Try.ntmps80
  go_wp2_with fail
  refine (notnull_any _ _).mono ?_
  rintro e w' ⟨rfl, rfl⟩
  go_wp2_with fail
  refine (notnull_any _ _).mono ?_
  rintro e w' ⟨rfl, rfl⟩
  go_wp2_with fail
  refine (wordcount_any B2 p2 L2 ws2 cap2 _ HB2.out (by omega) n2 HL2.out).mono ?_
  rintro e w' ⟨rfl, rfl⟩
  go_wp2_with fail
  refine (wordcount_any B p L ws n _ HBN.out (by omega) n HL1.out).mono ?_
  rintro e w' ⟨rfl, rfl⟩
  go_wp2_with fail
  refine (wordcount_any B p L ws n _ HBN.out (by omega) l HL3.out).mono ?_
  rintro e w' ⟨rfl, rfl⟩
  go_wp2_with fail
  go_quiet (fail)
  clear hw8
  go_wp2_with fail
  refine (extend_far B p L i2 _ (by omega) _ _ ((HB.out).drewN nq) HWL.out (by omega) (by omega) hBw).mono ?_
  rintro e w1 ⟨rfl, wz, cz, hbz, hwz, hbitz, hbelz, hgrz, hlies⟩
  have hwz2 : wz.length = n2 := hwz.trans HN2E.out
  rw [show i2 + 1 = L2 from by omega] at hbz
  obtain ⟨gz, z0, z1, z2⟩ := hbz.cells
  have hgz : some p2 ≠ some gz ∧ some g2 ≠ some gz := by
    rcases hlies _ _ _ z1 with hq | hq
    · have hq2 : w.cell? ⟨p, 1, none⟩ = _ := hq
      rw [c1] at hq2
      simp only [Option.some.injEq, Value.slice.injEq, Addr.mk.injEq] at hq2
      rw [← hq2.1.1]
      exact HQ.out
    · have hq2 : w.heap.size ≤ gz := hq
      have hq3 := HG2.out
      exact ⟨by simp; omega, by simp; omega⟩
  have hbelz : Below B w w1 := (below_drewN (Below.refl _ _) nq).trans hbelz
  have hfar : ∀ b o v, w.cell? ⟨b, o, none⟩ = some v → some b ≠ some p → w1.cell? ⟨b, o, none⟩ = some v := fun b o v h1 h2 => hgrz.cell (a := ⟨b, o, none⟩) (show (w.drewN nq).cell? _ = _ from h1) h2
  have d0z := hfar _ _ _ d0 HQP.out.1
  have d1z := hfar _ _ _ d1 HQP.out.1
  rw [hwz2] at z1 z2
  obtain ⟨f, hf⟩ : ∃ f : Nat → Nat, f = fun q => if q < l then wz.getD q 0 ^^^ ws2.getD q 0 else ws2.getD q 0 := ⟨_, rfl⟩
  have HFI : Hid (∀ i, i < l → f i = wz.getD i 0 ^^^ ws2.getD i 0) := fun i h => by rw [hf]; simp [h]
  have HFJ : Hid (∀ i, l ≤ i → f i = ws2.getD i 0) := fun i h => by
    rw [hf]
    have : ¬ i < l := by omega
    simp [this]
  have HBT : Hid (∀ j, Bsm.bit (Bsm.layf f wz n2) j = (Bsm.bit ws j != Bsm.bit ws2 j)) := by
    intro j
    rw [← hbitz j]
    unfold Bsm.bit
    rw [Bsm.layf_getD _ _ _ _ (by omega)]
    by_cases hj : j / 64 < n2
    · rw [if_pos hj]
      by_cases hjl : j / 64 < l
      · rw [HFI.out _ hjl, Nat.testBit_xor]
      · rw [HFJ.out _ (by omega)]
        have h1 := hbitz j
        rw [HOUT.out j (by omega)] at h1
        unfold Bsm.bit at h1
        rw [h1]
        cases (ws2.getD (j / 64) 0).testBit (j % 64) <;> rfl
    · rw [if_neg hj]
      have : ws2.getD (j / 64) 0 = 0 := by rw [List.getD_eq_getElem?_getD, List.getElem?_eq_none (by have := HN2.out; omega)]; rfl
      rw [this, Nat.zero_testBit]
      cases (wz.getD (j / 64) 0).testBit (j % 64) <;> rfl
  have HLZ := Lib.hid hbz.word_lt
  have HCZ := Lib.hid z2
  have HDZ : Hid (∀ q, q < n2 → w1.cell? ⟨g2, q, none⟩ = some (.int .u64 (ws2.getD q 0 : Nat))) := fun q hq => hfar _ _ _ (HD2.out q hq) HQP.out.2
  have DZ1 := Lib.hid d1z
  have HNZ := Lib.hid hwz2
  have HBZ := Lib.hid hbz
  have HBLZ := Lib.hid hbelz
  have HQ0 := HQ
  clear HQ
  have HQ := Lib.hid hgz
  have HM : Hid (max L L2 = L2) := show _ = _ by omega
  have HL2Z : Hid (L2 ≤ 64 * n2) := show _ ≤ _ by have := HN2E.out; omega
  clear hbz hwz hbitz hbelz hgrz hlies hwz2 z2 z0 hgz hfar hf
  have hd8 : decide (l < n2) = true := by simp; omega
  clear hLL hnn
  by_cases hl0 : l = 0
  · have hd2 : decide (0 < l) = false := by simp; omega
    have EL := Lib.hid (show Bsm.layf f wz l = wz by rw [hl0]; rfl)
    clear hl0
    go_wp2_with fail
    go_loopg [8] (n2 - l) (fun k idx wr => InY f wz B p L2 n2 cz gz l n2 w w1 k idx wr)
    case atStart => exact ⟨l, rfl, Nat.le_refl _, by omega, by rw [EL.out]; exact HBZ.out, z1, HBLZ.out, only_refl _ _⟩
    case round =>
      obtain ⟨i, rfl, hlo, hik, hbs, hc, hbel, hgr⟩ := hrel
      have d1n := hgr.cell DZ1.out HQ.out.1
      by_cases hi : i < n2
      · cases gk with
        | zero => omega
        | succ k =>
          have hY := HLT2.out i
          have hi3 : (i : Int) < (n2 : Int) := by omega
          have hi4 : (0 : Int) ≤ (i : Int) := by omega
          have hcy := hgr.cell (HDZ.out i hi) HQ.out.2
          have hl2 : (Bsm.layf f wz i).length = n2 := by rw [Bsm.layf_len, HNZ.out]
          have hfi := HFJ.out i hlo
          obtain ⟨Y, hYY⟩ : ∃ Y, ws2.getD i 0 = Y := ⟨_, rfl⟩
          rw [hYY] at hcy hY hfi
          have hput := Bs.put hbs (by rw [hl2]; exact hc) i Y (by omega) (by omega)
          have hlay : (Bsm.layf f wz i).set i Y = Bsm.layf f wz (i + 1) := by rw [← hfi]; rfl
          rw [hlay, hl2] at hput
          have hff := hput.2.2.1
          have hc2 := hput.2.2.2.1
          have HP := Lib.hid hput
          have HG := Lib.hid (only_setCell (p := ⟨gz, i, none⟩) hgr (.inl rfl) (.int .u64 ((Y : Nat) : Int)))
          clear hbs hput hl2 hY hlay hYY hfi hgr
          go_wp2_with fail
          refine wp_region_still_tail 12 (by kernel_rfl) (by kernel_rfl) ?_
          simp only [List.take_succ_cons, List.take_zero, List.drop_succ_cons, List.drop_zero]
          repeat still_step
          refine wpStill_nil ?_
          change wpList _ _ _ _ _ wr.drew
          go_wp2_with fail
          go_roundg k
          case measure => omega
          case rel => exact ⟨i + 1, by go_num, by omega, by omega, HP.out.1.drewN 1, HP.out.2.2.2.2, hbel.trans (HP.out.2.1.drew), only_drew HG.out⟩
      · obtain rfl : i = n2 := by omega
        have HBSz := Lib.hid hbs
        clear hbs
        go_wp2_with fail
        go_end0
        exact ⟨rfl, Bsm.layf f wz i, cz, by rw [HM.out]; exact HBSz.out, by rw [Bsm.layf_len, HNZ.out, HM.out]; exact HL2Z.out, HBT.out, hbel⟩
  · obtain ⟨l1, hl1⟩ : ∃ l1, l1 + 1 = l := ⟨l - 1, by omega⟩
    have hw1 : IntKind.i64.wrap ((l : Int) - 1) = (l1 : Int) := by rw [IntKind.wrap_i64]; omega
    have e1 := HCZ.out l1 (by omega)
    have e2 := HDZ.out l1 (by omega)
    have hd2 : decide (0 < l) = true := by simp; omega
    have hl4 : (l1 : Int) < (n2 : Int) := by omega
    have hl5 : (l1 : Int) < (n2 : Int) := by omega
    have hl6 : l1 < n2 := by omega
    have hl7 : l1 < n2 := by omega
    have hl8 : l1 + 1 ≤ l := by omega
    have hl9 : l ≤ l1 + 1 := by omega
    clear hl1
    go_wp2_with fail
    go_quiet (fail)
    go_wp2_with fail
    go_loopg [7] l (fun k idx wr => InY f wz B p L2 n2 cz gz 0 l w w1 k idx wr)
    case atStart => exact ⟨0, rfl, Nat.le_refl _, by omega, HBZ.out.drewN _, z1, below_drewN HBLZ.out _, only_drewN (only_refl _ _) _⟩
    case round =>
      obtain ⟨i, rfl, hlo, hik, hbs, hc, hbel, hgr⟩ := hrel
      by_cases hi : i < l
      · cases gk with
        | zero => omega
        | succ k =>
          have hX := HLZ.out i
          have hY := HLT2.out i
          have hi2 : i < n2 := by omega
          have hi3 : (i : Int) < (n2 : Int) := by omega
          have hi4 : (0 : Int) ≤ (i : Int) := by omega
          have hi5 : i < n2 := by omega
          have hi6 : (i : Int) < (n2 : Int) := by omega
          have hcy := hgr.cell (HDZ.out i hi2) HQ.out.2
          have hl2 : (Bsm.layf f wz i).length = n2 := by rw [Bsm.layf_len, HNZ.out]
          have hfi := HFI.out i hi
          have hgt : (Bsm.layf f wz i).getD i 0 = wz.getD i 0 := by rw [Bsm.layf_getD _ _ _ _ (by rw [HNZ.out]; omega), if_neg (by omega)]
          obtain ⟨X, hXX⟩ : ∃ X, wz.getD i 0 = X := ⟨_, rfl⟩
          obtain ⟨Y, hYY⟩ : ∃ Y, ws2.getD i 0 = Y := ⟨_, rfl⟩
          rw [hXX] at hX hfi hgt
          rw [hYY] at hcy hY hfi
          have hput := Bs.put hbs (by rw [hl2]; exact hc) i (f i) (by rw [hfi]; exact xor_lt2 X Y hX hY) (by omega)
          have hlay : (Bsm.layf f wz i).set i (f i) = Bsm.layf f wz (i + 1) := rfl
          rw [hlay, hl2] at hput
          have hff := hput.2.2.1
          have hc2 := hput.2.2.2.1
          rw [hgt] at hc2
          have hop : bits BinOp.xor IntKind.u64 (X : Int) (Y : Int) = ((f i : Nat) : Int) := by rw [hfi]; exact u64_xor_nat X Y hX hY
          have HX := Lib.hid hop
          have HP := Lib.hid hput
          have HG := Lib.hid (only_setCell (p := ⟨gz, i, none⟩) hgr (.inl rfl) (.int .u64 ((f i : Nat) : Int)))
          clear hbs hput hl2 hX hY hlay hXX hYY hop hfi hgt hgr
          go_wp2_with fail
          refine wp_region_still_tail 9 (by kernel_rfl) (by kernel_rfl) ?_
          simp only [List.take_succ_cons, List.take_zero, List.drop_succ_cons, List.drop_zero]
          repeat still_step
          refine wpStill_nil ?_
          change wpList _ _ _ _ _ wr.drew
          go_wp2_with fail
          rw [HX.out]
          go_roundg k
          case measure => omega
          case rel => exact ⟨i + 1, by go_num, by omega, by omega, HP.out.1.drewN 1, HP.out.2.2.2.2, hbel.trans (HP.out.2.1.drew), only_drew HG.out⟩
      · obtain rfl : i = l := by omega
        obtain ⟨w9, hw9⟩ : ∃ w9, w9 = wr := ⟨_, rfl⟩
        subst hw9
        have HBS9 := Lib.hid hbs
        have HGR9 := Lib.hid hgr
        have HBL9 := Lib.hid hbel
        have d1n := hgr.cell DZ1.out HQ.out.1
        clear hbs hgr d1z e1 e2
        obtain ⟨l, hll⟩ : ∃ l, l = i := ⟨_, rfl⟩
        subst hll
        go_wp2_with fail
        go_loopg [8] (n2 - l) (fun k idx wr => InY f wz B p L2 n2 cz gz l n2 w w1 k idx wr)
        case atStart => exact ⟨l, rfl, Nat.le_refl _, by omega, HBS9.out, hc, hbel, HGR9.out⟩
        case round =>
          obtain ⟨i, rfl, hlo, hik, hbs, hc, hbel, hgr⟩ := hrel
          have d1n := hgr.cell DZ1.out HQ.out.1
          by_cases hi : i < n2
          · cases gk with
            | zero => omega
            | succ k =>
              have hY := HLT2.out i
              have hi3 : (i : Int) < (n2 : Int) := by omega
              have hi4 : (0 : Int) ≤ (i : Int) := by omega
              have hcy := hgr.cell (HDZ.out i hi) HQ.out.2
              have hl2 : (Bsm.layf f wz i).length = n2 := by rw [Bsm.layf_len, HNZ.out]
              have hfi := HFJ.out i hlo
              obtain ⟨Y, hYY⟩ : ∃ Y, ws2.getD i 0 = Y := ⟨_, rfl⟩
              rw [hYY] at hcy hY hfi
              have hput := Bs.put hbs (by rw [hl2]; exact hc) i Y (by omega) (by omega)
              have hlay : (Bsm.layf f wz i).set i Y = Bsm.layf f wz (i + 1) := by rw [← hfi]; rfl
              rw [hlay, hl2] at hput
              have hff := hput.2.2.1
              have hc2 := hput.2.2.2.1
              have HP := Lib.hid hput
              have HG := Lib.hid (only_setCell (p := ⟨gz, i, none⟩) hgr (.inl rfl) (.int .u64 ((Y : Nat) : Int)))
              clear hbs hput hl2 hY hlay hYY hfi hgr
              go_wp2_with fail
              refine wp_region_still_tail 12 (by kernel_rfl) (by kernel_rfl) ?_
              simp only [List.take_succ_cons, List.take_zero, List.drop_succ_cons, List.drop_zero]
              repeat still_step
              refine wpStill_nil ?_
              change wpList _ _ _ _ _ wr.drew
              go_wp2_with fail
              go_roundg k
              case measure => omega
              case rel => exact ⟨i + 1, by go_num, by omega, by omega, HP.out.1.drewN 1, HP.out.2.2.2.2, hbel.trans (HP.out.2.1.drew), only_drew HG.out⟩
          · obtain rfl : i = n2 := by omega
            have HBSz := Lib.hid hbs
            clear hbs
            go_wp2_with fail
            go_end0
            exact ⟨rfl, Bsm.layf f wz i, cz, by rw [HM.out]; exact HBSz.out, by rw [Bsm.layf_len, HNZ.out, HM.out]; exact HL2Z.out, HBT.out, hbel⟩

set_option maxRecDepth 100000 in
set_option maxHeartbeats 8000000 in
theorem insym_even (B B2 p p2 L L2 : Nat) (ws ws2 : List Nat) (cap2 : Nat) (w : World) (hb : Bs B w p L ws ws.length) (hb2 : Bs B2 w p2 L2 ws2 cap2) (hL : L ≤ 10000) (hL2 : L2 ≤ 10000)
    (hwl : ws.length = (L + 63) / 64) (hwl2 : ws2.length = (L2 + 63) / 64) (hu : Under B2 p w) (hBw : B ≤ w.heap.size) (hLL : L < L2) (hnn : (L + 63) / 64 = (L2 + 63) / 64) :
    Calls Try.prog 80 #[.pointer (some ⟨p, 0, none⟩), .pointer (some ⟨p2, 0, none⟩)] w fun e w' => e = .returned (.tuple #[]) ∧
      ∃ ws' cap', Bs B w' p (max L L2) ws' cap' ∧ max L L2 ≤ 64 * ws'.length ∧ (∀ j, Bsm.bit ws' j = (Bsm.bit ws j != Bsm.bit ws2 j)) ∧ Below B w w' := by
  obtain ⟨g, c0, c1, c2⟩ := hb.cells
  obtain ⟨g2, d0, d1, d2⟩ := hb2.cells
  have hgU := hu.2 _ _ _ c1
  have hp2 : B2 ≤ p2 := by obtain ⟨_, h, _⟩ := hb2; exact h
  have hg2 : B2 ≤ g2 ∧ g2 < w.heap.size := by
    obtain ⟨g3, _, _, h3, h4, _⟩ := hb2
    have := h3.cell 1 rfl
    rw [d1] at this
    obtain rfl : g2 = g3 := by simpa using this
    exact h4.lt g2 rfl
  have hp2s : p2 < w.heap.size := World.block_lt_of_cell? w _ d0
  have hpp : p2 ≠ p := by have := hu.1; omega
  have hgp2 : g2 ≠ p := by have := hu.1; omega
  have hgp : p2 ≠ g := by have : g < B2 := hgU; omega
  have hgg : g2 ≠ g := by have : g < B2 := hgU; omega
  obtain ⟨n, hn⟩ : ∃ n, ws.length = n := ⟨_, rfl⟩
  obtain ⟨n2, hn2⟩ : ∃ n2, ws2.length = n2 := ⟨_, rfl⟩
  obtain ⟨l, hl⟩ : ∃ l, min n n2 = l := ⟨_, rfl⟩
  have hout : ∀ (zs : List Nat) (j : Nat), 64 * zs.length ≤ j → Bsm.bit zs j = false := by
    intro zs j hj
    unfold Bsm.bit
    rw [List.getD_eq_getElem?_getD, List.getElem?_eq_none (by omega)]
    exact Nat.zero_testBit _
  have hl' : l = n := by omega
  obtain ⟨i2, hi2⟩ : ∃ i2, L2 - 1 = i2 := ⟨_, rfl⟩
  have hw8 : IntKind.u64.wrap ((L2 : Int) - 1) = (i2 : Int) := by rw [IntKind.wrap_u64]; omega
  have hd5 : decide (0 < L2) = true := by simp; omega
  have hd7 : decide (L ≤ i2) = true := by simp; omega
  have hi3 : i2 + 1 ≤ L2 := by omega
  have hi4 : L2 ≤ i2 + 1 := by omega
  have hlen2 : (L2 + 63) / 64 = n2 := by omega
  have hlen1 : (L + 63) / 64 = n := by omega
  have hlen3 : (L + 63) / 64 = l := by omega
  have hn2e : (i2 + 64) / 64 = n2 := by omega
  have hl2l : n2 = l → (L2 + 63) / 64 = l := by intro h; omega
  have hn5 : n2 ≤ 10000 := by omega
  have hln : l ≤ n2 := by omega
  have hln4 : l ≤ n := by omega
  have hnl4 : n ≤ l := by omega
  have HOUT : Hid (∀ j, 64 * l ≤ j → Bsm.bit ws j = false) := fun j hj => hout ws j (by omega)
  have HWL := Lib.hid hwl
  rw [hn] at c1 c2
  rw [hn2] at d1 d2
  have hb' := hb
  rw [hn] at hb'
  have HBN := Lib.hid hb'
  have HLT2 := Lib.hid hb2.word_lt
  have HD2 := Lib.hid d2
  have HN := Lib.hid hn
  have HN2 := Lib.hid hn2
  have HN2E := Lib.hid hn2e
  have HB := Lib.hid hb
  have HB2 := Lib.hid hb2
  have HL1 := Lib.hid hlen1
  have HL2 := Lib.hid hlen2
  have HL3 := Lib.hid hlen3
  have HL4 := Lib.hid hl2l
  have HG2 : Hid (p2 < w.heap.size ∧ g2 < w.heap.size) := ⟨hp2s, hg2.2⟩
  have HQ : Hid (some p2 ≠ some g ∧ some g2 ≠ some g) := ⟨by simpa using hgp, by simpa using hgg⟩
  have HQP : Hid (some p2 ≠ some p ∧ some g2 ≠ some p) := ⟨by simpa using hpp, by simpa using hgp2⟩
  have HL2E : Hid ((L2 + 63) / 64 = l) := show _ = _ by omega
  have hd1 : decide (n < l) = false := by simp; omega
  clear hb hb' hb2 hn hn2 c2 d2 hwl hwl2 hu hgU hp2 hg2 hgp hgg hgp2 hpp hl hl' hout hlen1 hlen2 hlen3 hn2e hl2l hi2 hp2s
  go_enter Try.func80, Try.ntmps80
  go_wp2_with fail
  refine (notnull_any _ _).mono ?_
  rintro e w' ⟨rfl, rfl⟩
  go_wp2_with fail
  refine (notnull_any _ _).mono ?_
  rintro e w' ⟨rfl, rfl⟩
  go_wp2_with fail
  refine (wordcount_any B2 p2 L2 ws2 cap2 _ HB2.out (by omega) l HL2E.out).mono ?_
  rintro e w' ⟨rfl, rfl⟩
  go_wp2_with fail
  refine (wordcount_any B p L ws n _ HBN.out (by omega) n HL1.out).mono ?_
  rintro e w' ⟨rfl, rfl⟩
  go_wp2_with fail
  go_quiet (fail)
  clear hw8
  go_wp2_with fail
  refine (extend_far B p L i2 _ (by omega) _ _ ((HB.out).drewN nq) HWL.out (by omega) (by omega) hBw).mono ?_
  rintro e w1 ⟨rfl, wz, cz, hbz, hwz, hbitz, hbelz, hgrz, hlies⟩
  have hwz2 : wz.length = n2 := hwz.trans HN2E.out
  rw [show i2 + 1 = L2 from by omega] at hbz
  obtain ⟨gz, z0, z1, z2⟩ := hbz.cells
  have hgz : some p2 ≠ some gz ∧ some g2 ≠ some gz := by
    rcases hlies _ _ _ z1 with hq | hq
    · have hq2 : w.cell? ⟨p, 1, none⟩ = _ := hq
      rw [c1] at hq2
      simp only [Option.some.injEq, Value.slice.injEq, Addr.mk.injEq] at hq2
      rw [← hq2.1.1]
      exact HQ.out
    · have hq2 : w.heap.size ≤ gz := hq
      have hq3 := HG2.out
      exact ⟨by simp; omega, by simp; omega⟩
  have hbelz : Below B w w1 := (below_drewN (Below.refl _ _) nq).trans hbelz
  have hfar : ∀ b o v, w.cell? ⟨b, o, none⟩ = some v → some b ≠ some p → w1.cell? ⟨b, o, none⟩ = some v := fun b o v h1 h2 => hgrz.cell (a := ⟨b, o, none⟩) (show (w.drewN nq).cell? _ = _ from h1) h2
  have d0z := hfar _ _ _ d0 HQP.out.1
  have d1z := hfar _ _ _ d1 HQP.out.1
  rw [hwz2] at z1 z2
  obtain ⟨f, hf⟩ : ∃ f : Nat → Nat, f = fun q => if q < l then wz.getD q 0 ^^^ ws2.getD q 0 else ws2.getD q 0 := ⟨_, rfl⟩
  have HFI : Hid (∀ i, i < l → f i = wz.getD i 0 ^^^ ws2.getD i 0) := fun i h => by rw [hf]; simp [h]
  have HFJ : Hid (∀ i, l ≤ i → f i = ws2.getD i 0) := fun i h => by
    rw [hf]
    have : ¬ i < l := by omega
    simp [this]
  have HBT : Hid (∀ j, Bsm.bit (Bsm.layf f wz n2) j = (Bsm.bit ws j != Bsm.bit ws2 j)) := by
    intro j
    rw [← hbitz j]
    unfold Bsm.bit
    rw [Bsm.layf_getD _ _ _ _ (by omega)]
    by_cases hj : j / 64 < n2
    · rw [if_pos hj]
      by_cases hjl : j / 64 < l
      · rw [HFI.out _ hjl, Nat.testBit_xor]
      · rw [HFJ.out _ (by omega)]
        have h1 := hbitz j
        rw [HOUT.out j (by omega)] at h1
        unfold Bsm.bit at h1
        rw [h1]
        cases (ws2.getD (j / 64) 0).testBit (j % 64) <;> rfl
    · rw [if_neg hj]
      have : ws2.getD (j / 64) 0 = 0 := by rw [List.getD_eq_getElem?_getD, List.getElem?_eq_none (by have := HN2.out; omega)]; rfl
      rw [this, Nat.zero_testBit]
      cases (wz.getD (j / 64) 0).testBit (j % 64) <;> rfl
  have HLZ := Lib.hid hbz.word_lt
  have HCZ := Lib.hid z2
  have HDZ : Hid (∀ q, q < n2 → w1.cell? ⟨g2, q, none⟩ = some (.int .u64 (ws2.getD q 0 : Nat))) := fun q hq => hfar _ _ _ (HD2.out q hq) HQP.out.2
  have DZ1 := Lib.hid d1z
  have HNZ := Lib.hid hwz2
  have HBZ := Lib.hid hbz
  have HBLZ := Lib.hid hbelz
  have HQ0 := HQ
  clear HQ
  have HQ := Lib.hid hgz
  have HM : Hid (max L L2 = L2) := show _ = _ by omega
  have HL2Z : Hid (L2 ≤ 64 * n2) := show _ ≤ _ by have := HN2E.out; omega
  clear hbz hwz hbitz hbelz hgrz hlies hwz2 z2 z0 hgz hfar hf
  have hd8 : decide (l < n2) = false := by have := HL2E.out; have := HL2.out; simp; omega
  have hl00 : 0 < l := by have := HL2E.out; omega
  clear hLL hnn
  obtain ⟨l1, hl1⟩ : ∃ l1, l1 + 1 = l := ⟨l - 1, by omega⟩
  have hw1 : IntKind.i64.wrap ((l : Int) - 1) = (l1 : Int) := by rw [IntKind.wrap_i64]; omega
  have e1 := HCZ.out l1 (by omega)
  have e2 := HDZ.out l1 (by omega)
  have hd2 : decide (0 < l) = true := by simp; omega
  have hl4 : (l1 : Int) < (n2 : Int) := by omega
  have hl5 : (l1 : Int) < (n2 : Int) := by omega
  have hl6 : l1 < n2 := by omega
  have hl7 : l1 < n2 := by omega
  have hl8 : l1 + 1 ≤ l := by omega
  have hl9 : l ≤ l1 + 1 := by omega
  clear hl1
  go_wp2_with fail
  go_quiet (fail)
  go_wp2_with fail
  go_loopg [7] l (fun k idx wr => InY f wz B p L2 n2 cz gz 0 l w w1 k idx wr)
  case atStart => exact ⟨0, rfl, Nat.le_refl _, by omega, HBZ.out.drewN _, z1, below_drewN HBLZ.out _, only_drewN (only_refl _ _) _⟩
  case round =>
    obtain ⟨i, rfl, hlo, hik, hbs, hc, hbel, hgr⟩ := hrel
    by_cases hi : i < l
    · cases gk with
      | zero => omega
      | succ k =>
        have hX := HLZ.out i
        have hY := HLT2.out i
        have hi2 : i < n2 := by omega
        have hi3 : (i : Int) < (n2 : Int) := by omega
        have hi4 : (0 : Int) ≤ (i : Int) := by omega
        have hi5 : i < n2 := by omega
        have hi6 : (i : Int) < (n2 : Int) := by omega
        have hcy := hgr.cell (HDZ.out i hi2) HQ.out.2
        have hl2 : (Bsm.layf f wz i).length = n2 := by rw [Bsm.layf_len, HNZ.out]
        have hfi := HFI.out i hi
        have hgt : (Bsm.layf f wz i).getD i 0 = wz.getD i 0 := by rw [Bsm.layf_getD _ _ _ _ (by rw [HNZ.out]; omega), if_neg (by omega)]
        obtain ⟨X, hXX⟩ : ∃ X, wz.getD i 0 = X := ⟨_, rfl⟩
        obtain ⟨Y, hYY⟩ : ∃ Y, ws2.getD i 0 = Y := ⟨_, rfl⟩
        rw [hXX] at hX hfi hgt
        rw [hYY] at hcy hY hfi
        have hput := Bs.put hbs (by rw [hl2]; exact hc) i (f i) (by rw [hfi]; exact xor_lt2 X Y hX hY) (by omega)
        have hlay : (Bsm.layf f wz i).set i (f i) = Bsm.layf f wz (i + 1) := rfl
        rw [hlay, hl2] at hput
        have hff := hput.2.2.1
        have hc2 := hput.2.2.2.1
        rw [hgt] at hc2
        have hop : bits BinOp.xor IntKind.u64 (X : Int) (Y : Int) = ((f i : Nat) : Int) := by rw [hfi]; exact u64_xor_nat X Y hX hY
        have HX := Lib.hid hop
        have HP := Lib.hid hput
        have HG := Lib.hid (only_setCell (p := ⟨gz, i, none⟩) hgr (.inl rfl) (.int .u64 ((f i : Nat) : Int)))
        clear hbs hput hl2 hX hY hlay hXX hYY hop hfi hgt hgr
        go_wp2_with fail
        refine wp_region_still_tail 9 (by kernel_rfl) (by kernel_rfl) ?_
        simp only [List.take_succ_cons, List.take_zero, List.drop_succ_cons, List.drop_zero]
        repeat still_step
        refine wpStill_nil ?_
        change wpList _ _ _ _ _ wr.drew
        go_wp2_with fail
        rw [HX.out]
        go_roundg k
        case measure => omega
        case rel => exact ⟨i + 1, by go_num, by omega, by omega, HP.out.1.drewN 1, HP.out.2.2.2.2, hbel.trans (HP.out.2.1.drew), only_drew HG.out⟩
    · obtain rfl : i = l := by omega
      obtain ⟨w9, hw9⟩ : ∃ w9, w9 = wr := ⟨_, rfl⟩
      subst hw9
      have HBS9 := Lib.hid hbs
      have HGR9 := Lib.hid hgr
      have HBL9 := Lib.hid hbel
      have d1n := hgr.cell DZ1.out HQ.out.1
      clear hbs hgr d1z e1 e2
      obtain ⟨l, hll⟩ : ∃ l, l = i := ⟨_, rfl⟩
      subst hll
      have HLE : Hid (l = n2) := show _ = _ by have := HL2E.out; have := HL2.out; omega
      go_wp2_with fail
      go_end0
      exact ⟨rfl, Bsm.layf f wz l, cz, by rw [HM.out]; exact HBS9.out, by rw [Bsm.layf_len, HNZ.out, HM.out]; exact HL2Z.out, by rw [HLE.out]; exact HBT.out, hbel⟩
end Go.Proofs.Ytbgmkojiklphmaa
