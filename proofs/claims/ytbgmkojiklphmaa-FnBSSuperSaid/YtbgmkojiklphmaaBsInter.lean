/- Walks of BitSet's InPlaceIntersection and IntersectionCardinality. -/
import Derived.Test.YtbgmkojiklphmaaBsPopSl
namespace Go.Proofs.Ytbgmkojiklphmaa
set_option linter.unusedVariables false
open Go.RowKit
attribute [local irreducible] Pop.pc Bsm.cnt

def InLoop (f : Nat → Nat) (ws : List Nat) (B p L n g l : Nat) (w : World) (k : Nat) (idx : Value) (wr : World) : Prop :=
  ∃ i : Nat, idx = .int .i64 (i : Int) ∧ l ≤ i ∧ i + k = n ∧ Bs B wr p L (Bsm.layf f ws i) n ∧ wr.cell? ⟨p, 1, none⟩ = some (.slice (some ⟨g, 0, none⟩) n n) ∧ Below B w wr ∧ w.grownBy wr (some g)
def InLoop1 (f : Nat → Nat) (ws : List Nat) (B p L n g l : Nat) (w w0 : World) (k : Nat) (idx : Value) (wr : World) : Prop :=
  ∃ i : Nat, idx = .int .i64 (i : Int) ∧ i + k = l ∧ Bs B wr p L (Bsm.layf f ws i) n ∧ wr.cell? ⟨p, 1, none⟩ = some (.slice (some ⟨g, 0, none⟩) n n) ∧ Below B w wr ∧ w.grownBy wr (some g) ∧ w.heap.size ≤ wr.heap.size

/-- the words of a bitset stand apart from what has blocks from U on -/
def Under (U p : Nat) (w : World) : Prop := p < U ∧ ∀ (a : Addr) (n c : Nat), w.cell? ⟨p, 1, none⟩ = some (.slice (some a) n c) → a.block < U

set_option maxRecDepth 100000 in
set_option maxHeartbeats 8000000 in
theorem interin_any (B B2 p p2 L L2 : Nat) (ws ws2 : List Nat) (cap2 : Nat) (w : World) (hb : Bs B w p L ws ws.length) (hb2 : Bs B2 w p2 L2 ws2 cap2) (hL : L ≤ 10000) (hL2 : L2 ≤ 10000)
    (hwl : ws.length = (L + 63) / 64) (hwl2 : ws2.length = (L2 + 63) / 64) (hu : Under B2 p w) (hBw : B ≤ w.heap.size) :
    Calls Try.prog 77 #[.pointer (some ⟨p, 0, none⟩), .pointer (some ⟨p2, 0, none⟩)] w fun e w' => e = .returned (.tuple #[]) ∧
      ∃ ws' cap', Bs B w' p (max L L2) ws' cap' ∧ max L L2 ≤ 64 * ws'.length ∧ (∀ j, Bsm.bit ws' j = (Bsm.bit ws j && Bsm.bit ws2 j)) ∧ Below B w w' := by
  obtain ⟨g, c0, c1, c2⟩ := hb.cells
  obtain ⟨g2, d0, d1, d2⟩ := hb2.cells
  have hgU := hu.2 _ _ _ c1
  have hp2 : B2 ≤ p2 := by obtain ⟨_, h, _⟩ := hb2; exact h
  have hg2 : B2 ≤ g2 := by
    obtain ⟨g3, _, _, h3, h4, _⟩ := hb2
    have := h3.cell 1 rfl
    rw [d1] at this
    obtain rfl : g2 = g3 := by simpa using this
    exact (h4.lt g2 rfl).1
  have hgp : p2 ≠ g := by have : g < B2 := hgU; omega
  have hgg : g2 ≠ g := by have : g < B2 := hgU; omega
  obtain ⟨n, hn⟩ : ∃ n, ws.length = n := ⟨_, rfl⟩
  obtain ⟨n2, hn2⟩ : ∃ n2, ws2.length = n2 := ⟨_, rfl⟩
  obtain ⟨l, hl⟩ : ∃ l, min n n2 = l := ⟨_, rfl⟩
  obtain ⟨f, hf⟩ : ∃ f : Nat → Nat, f = fun q => ws.getD q 0 &&& ws2.getD q 0 := ⟨_, rfl⟩
  have hf0 : ∀ i, l ≤ i → i < n → f i = 0 := by
    intro i h1 h2
    have : ws2.getD i 0 = 0 := by rw [List.getD_eq_getElem?_getD, List.getElem?_eq_none (by omega)]; rfl
    rw [hf]
    show ws.getD i 0 &&& ws2.getD i 0 = 0
    rw [this, Nat.and_zero]
  have hf0' : ∀ i, l ≤ i → f i = 0 := by
    intro i h1
    by_cases h2 : i < n
    · exact hf0 i h1 h2
    · have : ws.getD i 0 = 0 := by rw [List.getD_eq_getElem?_getD, List.getElem?_eq_none (by omega)]; rfl
      rw [hf]
      show ws.getD i 0 &&& ws2.getD i 0 = 0
      rw [this, Nat.zero_and]
  have hbt : ∀ j, Bsm.bit (Bsm.layf f ws n) j = (Bsm.bit ws j && Bsm.bit ws2 j) := by
    intro j
    unfold Bsm.bit
    rw [Bsm.layf_getD _ _ _ _ (by omega)]
    by_cases h : j / 64 < n
    · rw [if_pos h, hf, Nat.testBit_and]
    · rw [if_neg h]
      have : ws.getD (j / 64) 0 = 0 := by rw [List.getD_eq_getElem?_getD, List.getElem?_eq_none (by omega)]; rfl
      rw [this, Nat.zero_testBit, Bool.false_and]
  have hlen : (Bsm.layf f ws n).length = n := by rw [Bsm.layf_len, hn]
  rw [hn] at c1 c2 hb
  rw [hn2] at d1 d2
  have hnl : n = (L + 63) / 64 := by omega
  have hnl2 : (L2 + 63) / 64 = n2 := by omega
  have hnl3 : (L + 63) / 64 = n := by omega
  have HF := fun i => Lib.hid (show f i = ws.getD i 0 &&& ws2.getD i 0 by rw [hf])
  have hln : l ≤ n := by omega
  have hln2 : l ≤ n2 := by omega
  have hn5 : n ≤ 10000 := by omega
  have hLn : L ≤ 64 * n := by omega
  have HLT := Lib.hid hb.word_lt
  have HLT2 := Lib.hid hb2.word_lt
  have HBT := Lib.hid hbt
  have HC2 := Lib.hid c2
  have HD2 := Lib.hid d2
  have D0 := Lib.hid d0
  have HLEN := Lib.hid hlen
  have HNL := Lib.hid hnl
  have HNL2 := Lib.hid hnl2
  have HNL3 := Lib.hid hnl3
  have HF0 := Lib.hid hf0'
  have HN := Lib.hid hn
  have HB := Lib.hid hb
  have HB2 := Lib.hid hb2
  have HL := Lib.hid hl
  have HQ : Hid (some p2 ≠ some g ∧ some g2 ≠ some g) := ⟨by simpa using hgp, by simpa using hgg⟩
  clear hb hb2 hbt hn hn2 c2 d2 hlen hwl hwl2 hf hu hgU hp2 hg2 hgp hgg hf0 hf0' hnl hnl2 hnl3 hl
  by_cases hA : n < n2
  case' pos =>
    have HL1 : Hid ((L + 63) / 64 = l) := by have := HL.out; have := HNL3.out; show _ = l; omega
    go_enter Try.func77, Try.ntmps77
    go_wp2_with fail
    refine (notnull_any _ _).mono ?_
    rintro e w' ⟨rfl, rfl⟩
    go_wp2_with fail
    refine (notnull_any _ _).mono ?_
    rintro e w' ⟨rfl, rfl⟩
    go_wp2_with fail
    refine (wordcount_any B2 p2 L2 ws2 cap2 _ HB2.out (by omega) n2 HNL2.out).mono ?_
    rintro e w' ⟨rfl, rfl⟩
    go_wp2_with fail
    refine (wordcount_any B p L ws n _ HB.out (by omega) n HNL3.out).mono ?_
    rintro e w' ⟨rfl, rfl⟩
    go_wp2_with fail
    refine (wordcount_any B p L ws n _ HB.out (by omega) l HL1.out).mono ?_
    rintro e w' ⟨rfl, rfl⟩
  case' neg =>
    have hd1 : decide (n < l) = false := by have := HL.out; simp; omega
    have HL1 : Hid ((L2 + 63) / 64 = l) := by have := HL.out; have := HNL2.out; show _ = l; omega
    go_enter Try.func77, Try.ntmps77
    go_wp2_with fail
    refine (notnull_any _ _).mono ?_
    rintro e w' ⟨rfl, rfl⟩
    go_wp2_with fail
    refine (notnull_any _ _).mono ?_
    rintro e w' ⟨rfl, rfl⟩
    go_wp2_with fail
    refine (wordcount_any B2 p2 L2 ws2 cap2 _ HB2.out (by omega) l HL1.out).mono ?_
    rintro e w' ⟨rfl, rfl⟩
    go_wp2_with fail
    refine (wordcount_any B p L ws n _ HB.out (by omega) n HNL3.out).mono ?_
    rintro e w' ⟨rfl, rfl⟩
  all_goals
    by_cases hl0 : l = 0
    · have EL := Lib.hid (show Bsm.layf f ws l = ws by rw [hl0]; rfl)
      have hd2 : decide (0 < l) = false := by simp; omega
      have HL0 := Lib.hid hl0
      clear hl0
      go_wp2_with fail
      go_loopg [8] (n - l) (fun k idx wr => InLoop f ws B p L n g l w k idx wr)
      case atStart => exact ⟨l, rfl, Nat.le_refl _, by omega, by rw [EL.out]; exact HB.out, c1, Below.refl _ _, only_refl _ _⟩
      case round =>
        obtain ⟨i, rfl, hli, hik, hbs, hc, hbel, hgr⟩ := hrel
        by_cases hi : i < n
        · cases gk with
          | zero => omega
          | succ k =>
            have hl2 : (Bsm.layf f ws i).length = n := by rw [Bsm.layf_len, HN.out]
            have hfi : f i = 0 := HF0.out i (by omega)
            have hput := Bs.put hbs (by rw [hl2]; exact hc) i 0 (by omega) (by omega)
            have hlay : (Bsm.layf f ws i).set i 0 = Bsm.layf f ws (i + 1) := by rw [← hfi]; rfl
            rw [hlay, hl2] at hput
            have hff := hput.2.2.1
            have hc2 := hput.2.2.2.1
            have HP := Lib.hid hput
            have HG := Lib.hid (only_setCell (p := ⟨g, i, none⟩) hgr (.inl rfl) (.int .u64 ((0 : Nat) : Int)))
            clear hbs hput hl2 hlay hfi hgr
            go_wp2_with fail
            go_roundg k
            case measure => omega
            case rel => exact ⟨i + 1, by go_num, by omega, by omega, HP.out.1, HP.out.2.2.2.2, hbel.trans HP.out.2.1, HG.out⟩
        · obtain rfl : i = n := by omega
          obtain ⟨wz, hwz⟩ : ∃ wz, wz = wr := ⟨_, rfl⟩
          subst hwz
          have q0 := hgr.cell D0.out HQ.out.1
          have hz0 := (Bs.cells hbs).choose_spec.1
          have HBS := Lib.hid hbs
          have HGR := Lib.hid hgr
          have hzs := hgr.size
          clear hbs hgr
          by_cases hx : L2 = 0
          · go_wp2_with fail
            go_end0
            exact ⟨rfl, _, _, by rw [show max L L2 = L from by omega]; exact HBS.out, by rw [HLEN.out]; omega, HBT.out, hbel⟩
          · have hw8 : IntKind.u64.wrap ((L2 : Int) - 1) = ((L2 - 1 : Nat) : Int) := by rw [IntKind.wrap_u64]; omega
            by_cases hy : L ≤ L2 - 1
            · have hy2 : decide ((L : Int) ≤ ((L2 - 1 : Nat) : Int)) = true := by simp; omega
              have HY := Lib.hid hy
              obtain ⟨i2, hi2⟩ : ∃ i2, L2 - 1 = i2 := ⟨_, rfl⟩
              rw [hi2] at hw8 hy2 hy
              have hi3 : i2 + 1 ≤ L2 := by omega
              have hi4 : L2 ≤ i2 + 1 := by omega
              clear hi2
              go_wp2_with fail
              go_quiet (fail)
              clear hw8 hy2
              go_wp2_with fail
              refine (extend_any B p L i2 _ (by omega) _ _ ((show Bs B wz p L (Bsm.layf f ws i) (Bsm.layf f ws i).length by rw [HLEN.out]; exact HBS.out).drewN nq) (by rw [HLEN.out]; exact HNL.out) (by omega) (by omega) (by have : (wz.drewN nq).heap.size = wz.heap.size := rfl; omega)).mono ?_
              rintro e w7 ⟨rfl, ws7, cap7, j1, j2, j3, j4⟩
              have J3 := Lib.hid j3
              clear j3
              go_wp2_with fail
              go_end0
              exact ⟨rfl, ws7, cap7, by rw [show max L L2 = i2 + 1 from by omega]; exact j1, by rw [j2]; omega, fun j => (J3.out j).trans (HBT.out j), hbel.trans ((below_drewN (Below.refl _ _) nq).trans j4)⟩
            · have hy2 : decide ((L : Int) ≤ ((L2 - 1 : Nat) : Int)) = false := by simp; omega
              have HY := Lib.hid hy
              obtain ⟨i2, hi2⟩ : ∃ i2, L2 - 1 = i2 := ⟨_, rfl⟩
              rw [hi2] at hw8 hy2 hy
              have hi3 : i2 + 1 ≤ L2 := by omega
              have hi4 : L2 ≤ i2 + 1 := by omega
              clear hi2
              go_wp2_with fail
              go_quiet (fail)
              clear hw8 hy2
              go_wp2_with fail
              go_end0
              exact ⟨rfl, _, _, by rw [show max L L2 = L from by omega]; exact HBS.out.drewN nq, by rw [HLEN.out]; omega, HBT.out, below_drewN hbel nq⟩
    · obtain ⟨l1, hl1⟩ : ∃ l1, l1 + 1 = l := ⟨l - 1, by omega⟩
      have hw1 : IntKind.i64.wrap ((l : Int) - 1) = (l1 : Int) := by rw [IntKind.wrap_i64]; omega
      have e1 := HC2.out l1 (by omega)
      have e2 := HD2.out l1 (by omega)
      have hd2 : decide (0 < l) = true := by simp; omega
      have hl4 : (l1 : Int) < (n : Int) := by omega
      have hl5 : (l1 : Int) < (n2 : Int) := by omega
      have hl6 : l1 < n := by omega
      have hl7 : l1 < n2 := by omega
      have hl8 : l1 + 1 ≤ l := by omega
      have hl9 : l ≤ l1 + 1 := by omega
      clear hl1
      go_wp2_with fail
      go_quiet (fail)
      go_wp2_with fail
      go_loopg [7] l (fun k idx wr => InLoop1 f ws B p L n g l w w k idx wr)
      case atStart => exact ⟨0, rfl, by omega, HB.out.drewN nq, c1, below_drewN (Below.refl _ _) nq, only_drewN (only_refl _ _) nq, Nat.le_refl _⟩
      case round =>
        obtain ⟨i, rfl, hik, hbs, hc, hbel, hgr, hzz⟩ := hrel
        by_cases hi : i < l
        · cases gk with
          | zero => omega
          | succ k =>
            have hX := HLT.out i
            have hY := HLT2.out i
            have hi2 : i < n2 := by omega
            have hi3 : (i : Int) < (n2 : Int) := by omega
            have hi4 : (0 : Int) ≤ (i : Int) := by omega
            have hi5 : i < n := by omega
            have hi6 : (i : Int) < (n : Int) := by omega
            have hcy := hgr.cell (HD2.out i hi2) HQ.out.2
            have hl2 : (Bsm.layf f ws i).length = n := by rw [Bsm.layf_len, HN.out]
            have hfi := (HF i).out
            have hgt : (Bsm.layf f ws i).getD i 0 = ws.getD i 0 := by rw [Bsm.layf_getD _ _ _ _ (by rw [HN.out]; omega), if_neg (by omega)]
            obtain ⟨X, hXX⟩ : ∃ X, ws.getD i 0 = X := ⟨_, rfl⟩
            obtain ⟨Y, hYY⟩ : ∃ Y, ws2.getD i 0 = Y := ⟨_, rfl⟩
            rw [hXX] at hX hfi hgt
            rw [hYY] at hcy hY hfi
            have hput := Bs.put hbs (by rw [hl2]; exact hc) i (f i) (by rw [hfi]; exact and_lt X Y hX) (by omega)
            have hlay : (Bsm.layf f ws i).set i (f i) = Bsm.layf f ws (i + 1) := rfl
            rw [hlay, hl2] at hput
            have hff := hput.2.2.1
            have hc2 := hput.2.2.2.1
            rw [hgt] at hc2
            have hop : bits BinOp.and IntKind.u64 (X : Int) (Y : Int) = ((f i : Nat) : Int) := by rw [hfi]; exact u64_and_nat X Y hX hY
            have HX := Lib.hid hop
            have HP := Lib.hid hput
            have HG := Lib.hid (only_setCell (p := ⟨g, i, none⟩) hgr (.inl rfl) (.int .u64 ((f i : Nat) : Int)))
            have hz4 : w.heap.size ≤ (wr.setCell ⟨g, i, none⟩ (.int .u64 ((f i : Nat) : Int))).drew.heap.size := Nat.le_trans hgr.size (by simp [World.setCell, World.drew])
            have HZ4 := Lib.hid hz4
            clear hbs hput hl2 hX hY hlay hXX hYY hop hfi hgt hgr hz4
            go_wp2_with fail
            refine wp_region_still_tail 9 (by kernel_rfl) (by kernel_rfl) ?_
            simp only [List.take_succ_cons, List.take_zero, List.drop_succ_cons, List.drop_zero]
            repeat still_step
            refine wpStill_nil ?_
            change wpList _ _ _ _ _ wr.drew
            go_wp2_with fail
            rw [HX.out]
            go_roundg k
            case measure => omega
            case rel => exact ⟨i + 1, by go_num, by omega, HP.out.1.drewN 1, HP.out.2.2.2.2, hbel.trans (HP.out.2.1.drew), only_drew HG.out, HZ4.out⟩
        · obtain rfl : i = l := by omega
          obtain ⟨w9, hw9⟩ : ∃ w9, w9 = wr := ⟨_, rfl⟩
          subst hw9
          have HBS9 := Lib.hid hbs
          have HGR9 := Lib.hid hgr
          obtain ⟨l, hll⟩ : ∃ l, l = i := ⟨_, rfl⟩
          subst hll
          clear hbs hgr
          go_wp2_with fail
          go_loopg [8] (n - l) (fun k idx wr => InLoop f ws B p L n g l w k idx wr)
          case atStart => exact ⟨l, rfl, Nat.le_refl _, by omega, HBS9.out, hc, hbel, HGR9.out⟩
          case round =>
            obtain ⟨i, rfl, hli, hik, hbs, hc, hbel, hgr⟩ := hrel
            by_cases hi : i < n
            · cases gk with
              | zero => omega
              | succ k =>
                have hl2 : (Bsm.layf f ws i).length = n := by rw [Bsm.layf_len, HN.out]
                have hfi : f i = 0 := HF0.out i (by omega)
                have hput := Bs.put hbs (by rw [hl2]; exact hc) i 0 (by omega) (by omega)
                have hlay : (Bsm.layf f ws i).set i 0 = Bsm.layf f ws (i + 1) := by rw [← hfi]; rfl
                rw [hlay, hl2] at hput
                have hff := hput.2.2.1
                have hc2 := hput.2.2.2.1
                have HP := Lib.hid hput
                have HG := Lib.hid (only_setCell (p := ⟨g, i, none⟩) hgr (.inl rfl) (.int .u64 ((0 : Nat) : Int)))
                clear hbs hput hl2 hlay hfi hgr
                go_wp2_with fail
                go_roundg k
                case measure => omega
                case rel => exact ⟨i + 1, by go_num, by omega, by omega, HP.out.1, HP.out.2.2.2.2, hbel.trans HP.out.2.1, HG.out⟩
            · obtain rfl : i = n := by omega
              obtain ⟨wz, hwz⟩ : ∃ wz, wz = wr := ⟨_, rfl⟩
              subst hwz
              have q0 := hgr.cell D0.out HQ.out.1
              have hz0 := (Bs.cells hbs).choose_spec.1
              have HBS := Lib.hid hbs
              have HGR := Lib.hid hgr
              have hzs := hgr.size
              clear hbs hgr
              by_cases hx : L2 = 0
              · go_wp2_with fail
                go_end0
                exact ⟨rfl, _, _, by rw [show max L L2 = L from by omega]; exact HBS.out, by rw [HLEN.out]; omega, HBT.out, hbel⟩
              · have hw8 : IntKind.u64.wrap ((L2 : Int) - 1) = ((L2 - 1 : Nat) : Int) := by rw [IntKind.wrap_u64]; omega
                by_cases hy : L ≤ L2 - 1
                · have hy2 : decide ((L : Int) ≤ ((L2 - 1 : Nat) : Int)) = true := by simp; omega
                  have HY := Lib.hid hy
                  obtain ⟨i2, hi2⟩ : ∃ i2, L2 - 1 = i2 := ⟨_, rfl⟩
                  rw [hi2] at hw8 hy2 hy
                  have hi3 : i2 + 1 ≤ L2 := by omega
                  have hi4 : L2 ≤ i2 + 1 := by omega
                  clear hi2
                  go_wp2_with fail
                  go_quiet (fail)
                  clear hw8 hy2
                  go_wp2_with fail
                  refine (extend_any B p L i2 _ (by omega) _ _ ((show Bs B wz p L (Bsm.layf f ws i) (Bsm.layf f ws i).length by rw [HLEN.out]; exact HBS.out).drewN nq) (by rw [HLEN.out]; exact HNL.out) (by omega) (by omega) (by have : (wz.drewN nq).heap.size = wz.heap.size := rfl; omega)).mono ?_
                  rintro e w7 ⟨rfl, ws7, cap7, j1, j2, j3, j4⟩
                  have J3 := Lib.hid j3
                  clear j3
                  go_wp2_with fail
                  go_end0
                  exact ⟨rfl, ws7, cap7, by rw [show max L L2 = i2 + 1 from by omega]; exact j1, by rw [j2]; omega, fun j => (J3.out j).trans (HBT.out j), hbel.trans ((below_drewN (Below.refl _ _) nq).trans j4)⟩
                · have hy2 : decide ((L : Int) ≤ ((L2 - 1 : Nat) : Int)) = false := by simp; omega
                  have HY := Lib.hid hy
                  obtain ⟨i2, hi2⟩ : ∃ i2, L2 - 1 = i2 := ⟨_, rfl⟩
                  rw [hi2] at hw8 hy2 hy
                  have hi3 : i2 + 1 ≤ L2 := by omega
                  have hi4 : L2 ≤ i2 + 1 := by omega
                  clear hi2
                  go_wp2_with fail
                  go_quiet (fail)
                  clear hw8 hy2
                  go_wp2_with fail
                  go_end0
                  exact ⟨rfl, _, _, by rw [show max L L2 = L from by omega]; exact HBS.out.drewN nq, by rw [HLEN.out]; omega, HBT.out, below_drewN hbel nq⟩

set_option maxRecDepth 100000 in
set_option maxHeartbeats 1000000 in
theorem intercard_core (q q2 : Addr) (B B2 p p2 L L2 : Nat) (ws ws2 : List Nat) (cap cap2 : Nat) (w : World) (hb : Bs B w p L ws cap) (hb2 : Bs B2 w p2 L2 ws2 cap2) (hL : L ≤ 10000) (h : L ≤ L2) (h0 : 0 < L)
    (hwl : ws.length = (L + 63) / 64) (hwl2 : ws2.length = (L2 + 63) / 64) (La Lb : Nat) (ha : 0 < La) (hlb : 0 < Lb) (hLa : La ≤ 10000) (hLb : Lb ≤ 10000) (c1 : w.cell? ⟨q.block, 0, none⟩ = some (.int .u64 (La : Int))) (c2 : w.cell? ⟨q2.block, 0, none⟩ = some (.int .u64 (Lb : Int))) (hq : q = ⟨q.block, 0, none⟩) (hq2 : q2 = ⟨q2.block, 0, none⟩)
    (hs : ∀ nq, Calls Try.prog 97 #[.pointer (some q), .pointer (some q2)] (w.drewN nq) fun e w' => e = .returned (.tuple #[.pointer (some ⟨p, 0, none⟩), .pointer (some ⟨p2, 0, none⟩)]) ∧ ∃ m, w' = (w.drewN nq).drewN m) :
    Calls Try.prog 78 #[.pointer (some q), .pointer (some q2)] w fun e w' =>
      e = .returned (.int .u64 (Bsm.cnt (Bsm.bit (List.zipWith (fun x y => x &&& y) ws ws2)) 0 (64 * ws.length) : Nat)) ∧ ∃ m, w' = w.drewN m := by
  obtain ⟨qb, qo, qs⟩ := q
  obtain ⟨qb2, qo2, qs2⟩ := q2
  simp only [Addr.mk.injEq, true_and] at hq hq2
  obtain ⟨rfl, rfl⟩ := hq
  obtain ⟨rfl, rfl⟩ := hq2
  simp only at c1 c2
  have HLT := Lib.hid hb.word_lt
  have HLT2 := Lib.hid hb2.word_lt
  obtain ⟨g, _, d1, hS, _⟩ := hb.sl
  obtain ⟨g2, _, d2, hS2, _⟩ := hb2.sl
  have hl1 : 0 < ws.length := by omega
  have hl2 : ws.length ≤ ws2.length := by omega
  have hl3 : ws.length ≤ 10000 := by omega
  have HS := Lib.hid hS
  have HS2 := Lib.hid hS2
  have HSO := Lib.hid hs
  have HL1 := Lib.hid hl1
  have HL2 := Lib.hid hl2
  have HL3 := Lib.hid hl3
  have e1 : ((La : Int) == 0) = false := by simp; omega
  have e2 : ((Lb : Int) == 0) = false := by simp; omega
  obtain ⟨V, hV⟩ : ∃ V : Nat, Bsm.cnt (Bsm.bit (List.zipWith (fun x y => x &&& y) ws ws2)) 0 (64 * ws.length) = V := ⟨_, rfl⟩
  rw [hV]
  have hvl := Bsm.cnt_le (Bsm.bit (List.zipWith (fun x y => x &&& y) ws ws2)) 0 (64 * ws.length)
  rw [hV] at hvl
  have HV := Lib.hid hV
  have hvl2 : V ≤ 1000000 := by omega
  clear hS hS2 hb hb2 hs hwl hwl2 hl1 hl2 hl3 hV hvl
  go_enter Try.func78, Try.ntmps78
  go_wp2_with fail
  refine (notnull_any _ _).mono ?_
  rintro e w' ⟨rfl, rfl⟩
  go_wp2_with fail
  refine (notnull_any _ _).mono ?_
  rintro e w' ⟨rfl, rfl⟩
  go_wp2_with fail
  refine (HSO.out 0).mono ?_
  rintro e w' ⟨rfl, nq, rfl⟩
  go_wp2_with fail
  go_quiet ((go_at_call 98; first | exact quiet_add (HV.out ▸ popand_any _ _ ws ws2 _ (HS.out.drewN _) (HS2.out.drewN _) HL1.out HL2.out HL3.out HLT.out HLT2.out) | exact Calls.quiet_of (HV.out ▸ popand_any _ _ ws ws2 _ (HS.out.drewN _) (HS2.out.drewN _) HL1.out HL2.out HL3.out HLT.out HLT2.out)))
  go_wp2_with fail
  go_ret
  exact ⟨ret_int (by first | rfl | omega), _, by first | rfl | exact World.drewN_drewN ..⟩
end Go.Proofs.Ytbgmkojiklphmaa
