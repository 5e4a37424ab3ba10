/- Walks of BitSet's Union, Intersection and Difference of two bitsets of one length (printed by gen_road.py). -/
import Derived.Test.YtgifbdjifmoafaaGreatRdBase
import Derived.Test.YtgifbdjifmoafaaGreatBaWords
import Derived.Deep.RegionHeld3
namespace Go.Proofs.YtgifbdjifmoafaaGreat
set_option linter.unusedVariables false
open Go.RowKit

theorem or_lt2 (X Y : Nat) (hX : X < 18446744073709551616) (hY : Y < 18446744073709551616) : X ||| Y < 18446744073709551616 := Nat.or_lt_two_pow (n := 64) hX hY
theorem and_lt2 (X Y : Nat) (hX : X < 18446744073709551616) : X &&& Y < 18446744073709551616 := Nat.lt_of_le_of_lt Nat.and_le_left hX
def two (how : Nat) (x y : Bool) : Bool := if how = 1 then x && y else if how = 2 then x && !y else if how = 3 then x != y else x || y
def twos (how : Nat) (xs ys : List Bool) : List Bool := (List.range (max xs.length ys.length)).map fun j => two how (xs.getD j false) (ys.getD j false)
theorem twos_get (how : Nat) (xs ys : List Bool) (hh : how ≤ 3) (j : Nat) : (twos how xs ys).getD j false = two how (xs.getD j false) (ys.getD j false) := by
  unfold twos
  simp only [List.getD_eq_getElem?_getD, List.getElem?_map, List.getElem?_range']
  by_cases h : j < max xs.length ys.length
  · simp [h]
  · rw [List.getElem?_eq_none (l := xs) (by omega), List.getElem?_eq_none (l := ys) (by omega)]
    have h3 : how = 0 ∨ how = 1 ∨ how = 2 ∨ how = 3 := by omega
    rcases h3 with rfl | rfl | rfl | rfl <;> simp [two, h]

set_option maxRecDepth 100000 in
set_option maxHeartbeats 400000 in
theorem sort_le (B B2 p p2 L L2 : Nat) (ws ws2 : List Nat) (cap cap2 : Nat) (w : World) (hb : Bs B w p L ws cap) (hb2 : Bs B2 w p2 L2 ws2 cap2) (hL : L ≤ 100000) (hL2 : L2 ≤ 100000) (h : L ≤ L2) :
    Calls Tryz.prog 28 #[.pointer (some ⟨p, 0, none⟩), .pointer (some ⟨p2, 0, none⟩)] w fun e w' => e = .returned (.tuple #[.pointer (some ⟨p, 0, none⟩), .pointer (some ⟨p2, 0, none⟩)]) ∧ ∃ nq, w' = w.drewN nq := by
  obtain ⟨g, c0, c1, c2⟩ := hb.cells
  obtain ⟨g', d0, d1, d2⟩ := hb2.cells
  clear c2 d2 c1 d1
  go_enter Tryz.func28, Tryz.ntmps28
  go_wp2_with fail
  go_quiet (fail)
  go_wp2_with fail
  go_ret2
  exact ⟨rfl, _, rfl⟩

set_option maxRecDepth 100000 in
set_option maxHeartbeats 400000 in
theorem sort_gt (B B2 p p2 L L2 : Nat) (ws ws2 : List Nat) (cap cap2 : Nat) (w : World) (hb : Bs B w p L ws cap) (hb2 : Bs B2 w p2 L2 ws2 cap2) (hL : L ≤ 100000) (hL2 : L2 ≤ 100000) (h : L2 < L) :
    Calls Tryz.prog 28 #[.pointer (some ⟨p, 0, none⟩), .pointer (some ⟨p2, 0, none⟩)] w fun e w' => e = .returned (.tuple #[.pointer (some ⟨p2, 0, none⟩), .pointer (some ⟨p, 0, none⟩)]) ∧ ∃ nq, w' = w.drewN nq := by
  obtain ⟨g, c0, c1, c2⟩ := hb.cells
  obtain ⟨g', d0, d1, d2⟩ := hb2.cells
  clear c2 d2 c1 d1
  go_enter Tryz.func28, Tryz.ntmps28
  go_wp2_with fail
  go_quiet (fail)
  go_wp2_with fail
  go_ret2
  exact ⟨rfl, _, rfl⟩


def MeetLoop (f : Nat → Nat) (r L n cap g' : Nat) (w : World) (k : Nat) (idx : Value) (wr : World) : Prop :=
  ∃ i : Nat, idx = .int .i64 (i : Int) ∧ i + k = n ∧ Bs w.heap.size wr r L (Bsm.layf f (List.replicate n 0) i) cap ∧ wr.cell? ⟨r, 1, none⟩ = some (.slice (some ⟨g', 0, none⟩) n cap) ∧ Below w.heap.size w wr

set_option maxRecDepth 100000 in
set_option maxHeartbeats 1000000 in
theorem inter_core (q q2 : Addr) (B B2 p p2 L L2 : Nat) (ws ws2 : List Nat) (cap cap2 : Nat) (w : World) (hb : Bs B w p L ws cap) (hb2 : Bs B2 w p2 L2 ws2 cap2) (hL : L ≤ 100000) (h : L ≤ L2)
    (hwl : ws.length = (L + 63) / 64) (hwl2 : ws2.length = (L2 + 63) / 64)
    (hs : Calls Tryz.prog 28 #[.pointer (some q), .pointer (some q2)] w fun e w' => e = .returned (.tuple #[.pointer (some ⟨p, 0, none⟩), .pointer (some ⟨p2, 0, none⟩)]) ∧ ∃ nq, w' = w.drewN nq) :
    Calls Tryz.prog 18 #[.pointer (some q), .pointer (some q2)] w fun e w' => ∃ r ws', e = .returned (.pointer (some ⟨r, 0, none⟩)) ∧
      Bs w.heap.size w' r L ws' ((L + 63) / 64) ∧ ws'.length = (L + 63) / 64 ∧ (∀ j, j < L → Bsm.bit ws' j = (Bsm.bit ws j && Bsm.bit ws2 j)) ∧ Below w.heap.size w w' := by
  obtain ⟨g, c0, c1, c2⟩ := hb.cells
  obtain ⟨g2, d0, d1, d2⟩ := hb2.cells
  obtain ⟨n, hn⟩ : ∃ n, ws.length = n := ⟨_, rfl⟩
  obtain ⟨n2, hn2⟩ : ∃ n2, ws2.length = n2 := ⟨_, rfl⟩
  have hlt := hb.word_lt
  have hlt2 := hb2.word_lt
  obtain ⟨f, hf⟩ : ∃ f : Nat → Nat, f = fun q => ws.getD q 0 &&& ws2.getD q 0 := ⟨_, rfl⟩
  have hbt : ∀ j, j < L → Bsm.bit (Bsm.layf f (List.replicate n 0) n) j = (Bsm.bit ws j && Bsm.bit ws2 j) := by
    intro j hj
    unfold Bsm.bit
    rw [Bsm.layf_getD _ _ _ _ (by simp), if_pos (by omega), hf, Nat.testBit_and]
  have hlen : (Bsm.layf f (List.replicate n 0) n).length = n := by rw [Bsm.layf_len, List.length_replicate]
  rw [hn] at c1 c2
  rw [hn2] at d1 d2
  have hn0 : (L + 63) / 64 = n := by omega
  rw [hn0]
  have hnn : n ≤ n2 := by omega
  have hn3 : n ≤ 100000 := by omega
  have HF := fun i => Lib.hid (show f i = ws.getD i 0 &&& ws2.getD i 0 by rw [hf])
  have HLT := Lib.hid hlt
  have HLT2 := Lib.hid hlt2
  have HBT := Lib.hid hbt
  have HC2 := Lib.hid c2
  have HD2 := Lib.hid d2
  have HLEN := Lib.hid hlen
  have HN0 := Lib.hid hn0
  have HS := Lib.hid hs
  clear hb hb2 hlt hlt2 hbt hn hn2 c2 d2 hlen hwl hwl2 hn0 hf hs
  go_enter Tryz.func18, Tryz.ntmps18
  go_wp2_with fail
  refine (notnull_any _ _).mono ?_
  rintro e w' ⟨rfl, rfl⟩
  go_wp2_with fail
  refine (notnull_any _ _).mono ?_
  rintro e w' ⟨rfl, rfl⟩
  go_wp2_with fail
  refine HS.out.mono ?_
  rintro e w' ⟨rfl, nq, rfl⟩
  go_wp2_with fail
  refine (new_any L _ (by omega)).mono ?_
  rintro e w1 ⟨r, rfl, hbs, hb1⟩
  rw [HN0.out] at hbs
  have hb1 : Below w.heap.size w w1 := (below_drewN (Below.refl _ _) nq).trans hb1
  replace hbs : Bs w.heap.size w1 r L (List.replicate n 0) n := hbs
  obtain ⟨g', e0, e1, e2⟩ := hbs.cells
  rw [List.length_replicate] at e1
  have HBS := Lib.hid hbs
  clear hbs e2 e0
  have c1' : w1.cell? ⟨p, 1, none⟩ = some (.slice (some ⟨g, 0, none⟩) n cap) := (hb1.cell (World.block_lt_of_cell? w _ c1)).trans c1
  go_wp2_with fail
  go_loopg [27] n (fun k idx wr => MeetLoop f r L n n g' w k idx wr)
  case atStart => exact ⟨0, rfl, by omega, HBS.out, e1, hb1⟩
  case round =>
    obtain ⟨i, rfl, hik, hbs, hc, hbel⟩ := hrel
    by_cases hi : i < n
    · cases gk with
      | zero => omega
      | succ k =>
        have hX := HLT.out i
        have hY := HLT2.out i
        have hi2 : i < n2 := by omega
        have hi3 : (i : Int) < (n2 : Int) := by omega
        have hi4 : (0 : Int) ≤ (i : Int) := by omega
        have hcx := (hbel.cell (World.block_lt_of_cell? w _ (HC2.out i hi))).trans (HC2.out i hi)
        have hcy := (hbel.cell (World.block_lt_of_cell? w _ (HD2.out i (by omega)))).trans (HD2.out i (by omega))
        have d1' := (hbel.cell (World.block_lt_of_cell? w _ d1)).trans d1
        have hl : (Bsm.layf f (List.replicate n 0) i).length = n := by rw [Bsm.layf_len, List.length_replicate]
        have hfi := (HF i).out
        obtain ⟨X, hXX⟩ : ∃ X, ws.getD i 0 = X := ⟨_, rfl⟩
        obtain ⟨Y, hYY⟩ : ∃ Y, ws2.getD i 0 = Y := ⟨_, rfl⟩
        rw [hXX] at hcx hX hfi
        rw [hYY] at hcy hY hfi
        have hput := Bs.put hbs (by rw [hl]; exact hc) i (f i) (by rw [hfi]; exact and_lt2 X Y hX) (by omega)
        have hlay : (Bsm.layf f (List.replicate n 0) i).set i (f i) = Bsm.layf f (List.replicate n 0) (i + 1) := rfl
        rw [hlay, hl] at hput
        have hff := hput.2.2.1
        have hc2 := hput.2.2.2.1
        have hop : bits BinOp.and IntKind.u64 (X : Int) (Y : Int) = ((f i : Nat) : Int) := by rw [hfi]; exact u64_and_nat X Y hX hY
        have HX := Lib.hid hop
        have HP := Lib.hid hput
        clear hbs hput hl hX hY hlay hXX hYY hop hfi
        go_wp2_with fail
        refine wp_region_still_tail 14 (by kernel_rfl) (by kernel_rfl) ?_
        simp only [List.take_succ_cons, List.take_zero, List.drop_succ_cons, List.drop_zero]
        repeat still_step
        refine wpStill_nil ?_
        change wpList _ _ _ _ _ wr.drew
        go_wp2_with fail
        rw [HX.out]
        go_roundg k
        case measure => omega
        case rel => exact ⟨i + 1, by go_num, by omega, HP.out.1.drewN 1, HP.out.2.2.2.2, hbel.trans (HP.out.2.1.drew)⟩
    · obtain rfl : i = n := by omega
      go_wp2_with fail
      go_ret
      exact ⟨r, _, rfl, hbs, HLEN.out, HBT.out, hbel⟩

def UniLoop (f : Nat → Nat) (zs : List Nat) (r L n nc cap g' : Nat) (w : World) (k : Nat) (idx : Value) (wr : World) : Prop :=
  ∃ i : Nat, idx = .int .i64 (i : Int) ∧ i + k = n ∧ Bs w.heap.size wr r L (Bsm.layf f zs i) cap ∧ wr.cell? ⟨r, 1, none⟩ = some (.slice (some ⟨g', 0, none⟩) nc cap) ∧ Below w.heap.size w wr

set_option maxRecDepth 100000 in
set_option maxHeartbeats 1000000 in
theorem uni_core (q q2 : Addr) (B B2 p p2 L L2 : Nat) (ws ws2 : List Nat) (cap cap2 : Nat) (w : World) (hb : Bs B w p L ws cap) (hb2 : Bs B2 w p2 L2 ws2 cap2) (hL : L2 ≤ 100000) (h : L ≤ L2)
    (hwl : ws.length = (L + 63) / 64) (hwl2 : ws2.length = (L2 + 63) / 64)
    (hs : Calls Tryz.prog 28 #[.pointer (some q), .pointer (some q2)] w fun e w' => e = .returned (.tuple #[.pointer (some ⟨p, 0, none⟩), .pointer (some ⟨p2, 0, none⟩)]) ∧ ∃ nq, w' = w.drewN nq) :
    Calls Tryz.prog 17 #[.pointer (some q), .pointer (some q2)] w fun e w' => ∃ r ws' cap', e = .returned (.pointer (some ⟨r, 0, none⟩)) ∧
      Bs w.heap.size w' r L2 ws' cap' ∧ L2 ≤ 64 * ws'.length ∧ (∀ j, Bsm.bit ws' j = (Bsm.bit ws j || Bsm.bit ws2 j)) ∧ Below w.heap.size w w' := by
  obtain ⟨g, c0, c1, c2⟩ := hb.cells
  obtain ⟨g2, d0, d1, d2⟩ := hb2.cells
  obtain ⟨n, hn⟩ : ∃ n, ws.length = n := ⟨_, rfl⟩
  obtain ⟨n2, hn2⟩ : ∃ n2, ws2.length = n2 := ⟨_, rfl⟩
  have hlt := hb.word_lt
  have hlt2 := hb2.word_lt
  obtain ⟨f, hf⟩ : ∃ f : Nat → Nat, f = fun q => ws.getD q 0 ||| ws2.getD q 0 := ⟨_, rfl⟩
  have hbt : ∀ j, Bsm.bit (Bsm.layf f ws2 n) j = (Bsm.bit ws j || Bsm.bit ws2 j) := by
    intro j
    unfold Bsm.bit
    rw [Bsm.layf_getD _ _ _ _ (by omega)]
    by_cases hj : j / 64 < n
    · rw [if_pos hj, hf, Nat.testBit_or]
    · rw [if_neg hj]
      have : ws.getD (j / 64) 0 = 0 := by rw [List.getD_eq_getElem?_getD, List.getElem?_eq_none (by omega)]; rfl
      rw [this, Nat.zero_testBit]
      cases (ws2.getD (j / 64) 0).testBit (j % 64) <;> rfl
  have hlen : (Bsm.layf f ws2 n).length = n2 := by rw [Bsm.layf_len, hn2]
  rw [hn] at c1 c2
  rw [hn2] at d1 d2
  have hnn : n ≤ n2 := by omega
  have hn3 : n2 ≤ 100000 := by omega
  have hL2n : L2 ≤ 64 * n2 := by omega
  have HF := fun i => Lib.hid (show f i = ws.getD i 0 ||| ws2.getD i 0 by rw [hf])
  have HLT := Lib.hid hlt
  have HLT2 := Lib.hid hlt2
  have HBT := Lib.hid hbt
  have HC2 := Lib.hid c2
  have HD2 := Lib.hid d2
  have HLEN := Lib.hid hlen
  have HS := Lib.hid hs
  have HB2 := Lib.hid hb2
  have HWL2 := Lib.hid hwl2
  have HN2 := Lib.hid hn2
  clear hb hb2 hlt hlt2 hbt hn hn2 c2 d2 hlen hwl hwl2 hf hs
  go_enter Tryz.func17, Tryz.ntmps17
  go_wp2_with fail
  refine (notnull_any _ _).mono ?_
  rintro e w' ⟨rfl, rfl⟩
  go_wp2_with fail
  refine (notnull_any _ _).mono ?_
  rintro e w' ⟨rfl, rfl⟩
  go_wp2_with fail
  refine HS.out.mono ?_
  rintro e w' ⟨rfl, nq, rfl⟩
  go_wp2_with fail
  refine (clone_any B2 p2 L2 ws2 cap2 _ (HB2.out.drewN nq) HWL2.out (by omega)).mono ?_
  rintro e w1 ⟨r, rfl, hbs, hb1⟩
  have hb1 : Below w.heap.size w w1 := (below_drewN (Below.refl _ _) nq).trans hb1
  obtain ⟨cp, hcp⟩ : ∃ cp, (L2 + 63) / 64 = cp := ⟨_, rfl⟩
  rw [hcp] at hbs
  replace hbs : Bs w.heap.size w1 r L2 ws2 cp := hbs
  obtain ⟨g', e0, e1, e2⟩ := hbs.cells
  rw [HN2.out] at e1
  have HBS := Lib.hid hbs
  clear hbs e2 e0 hcp
  have c1' : w1.cell? ⟨p, 1, none⟩ = some (.slice (some ⟨g, 0, none⟩) n cap) := (hb1.cell (World.block_lt_of_cell? w _ c1)).trans c1
  go_wp2_with fail
  go_loopg [24] n (fun k idx wr => UniLoop f ws2 r L2 n n2 cp g' w k idx wr)
  case atStart => exact ⟨0, rfl, by omega, HBS.out, e1, hb1⟩
  case round =>
    obtain ⟨i, rfl, hik, hbs, hc, hbel⟩ := hrel
    by_cases hi : i < n
    · cases gk with
      | zero => omega
      | succ k =>
        have hX := HLT.out i
        have hY := HLT2.out i
        have hi2 : i < n2 := by omega
        have hi3 : (i : Int) < (n2 : Int) := by omega
        have hi4 : (0 : Int) ≤ (i : Int) := by omega
        have hcx := (hbel.cell (World.block_lt_of_cell? w _ (HC2.out i hi))).trans (HC2.out i hi)
        have hcy := (hbel.cell (World.block_lt_of_cell? w _ (HD2.out i (by omega)))).trans (HD2.out i (by omega))
        have d1' := (hbel.cell (World.block_lt_of_cell? w _ d1)).trans d1
        have hl : (Bsm.layf f ws2 i).length = n2 := by rw [Bsm.layf_len, HN2.out]
        have hfi := (HF i).out
        obtain ⟨X, hXX⟩ : ∃ X, ws.getD i 0 = X := ⟨_, rfl⟩
        obtain ⟨Y, hYY⟩ : ∃ Y, ws2.getD i 0 = Y := ⟨_, rfl⟩
        rw [hXX] at hcx hX hfi
        rw [hYY] at hcy hY hfi
        have hput := Bs.put hbs (by rw [hl]; exact hc) i (f i) (by rw [hfi]; exact or_lt2 X Y hX hY) (by omega)
        have hlay : (Bsm.layf f ws2 i).set i (f i) = Bsm.layf f ws2 (i + 1) := rfl
        rw [hlay, hl] at hput
        have hff := hput.2.2.1
        have hc2 := hput.2.2.2.1
        have hop : bits BinOp.or IntKind.u64 (X : Int) (Y : Int) = ((f i : Nat) : Int) := by rw [hfi]; exact u64_or_nat X Y hX hY
        have HX := Lib.hid hop
        have HP := Lib.hid hput
        clear hbs hput hl hX hY hlay hXX hYY hop hfi
        go_wp2_with fail
        refine wp_region_still_tail 14 (by kernel_rfl) (by kernel_rfl) ?_
        simp only [List.take_succ_cons, List.take_zero, List.drop_succ_cons, List.drop_zero]
        repeat still_step
        refine wpStill_nil ?_
        change wpList _ _ _ _ _ wr.drew
        go_wp2_with fail
        rw [HX.out]
        go_roundg k
        case measure => omega
        case rel => exact ⟨i + 1, by go_num, by omega, HP.out.1.drewN 1, HP.out.2.2.2.2, hbel.trans (HP.out.2.1.drew)⟩
    · obtain rfl : i = n := by omega
      go_wp2_with fail
      go_ret
      exact ⟨r, _, cp, rfl, hbs, by rw [HLEN.out]; exact hL2n, HBT.out, hbel⟩


def DifLoop (f : Nat → Nat) (zs : List Nat) (r L n cap g' : Nat) (w : World) (k : Nat) (idx : Value) (wr : World) : Prop :=
  ∃ i : Nat, idx = .int .i64 (i : Int) ∧ i + k = n ∧ Bs w.heap.size wr r L (Bsm.layf f zs i) cap ∧ wr.cell? ⟨r, 1, none⟩ = some (.slice (some ⟨g', 0, none⟩) n cap) ∧ Below w.heap.size w wr
theorem wc_any (B p L : Nat) (ws : List Nat) (cap : Nat) (w : World) (hb : Bs B w p L ws cap) (hL : L ≤ 100000) (n : Nat) (hn : (L + 63) / 64 = n) :
    Calls Tryz.prog 30 #[.pointer (some ⟨p, 0, none⟩)] w fun e w' => e = .returned (.int .i64 (n : Int)) ∧ w = w' := by
  obtain ⟨g, c0, c1, c2⟩ := hb.cells
  clear hb c2 c1
  have hw1 : IntKind.i64.wrap (L : Int) = (L : Int) := IntWalk.i64_in _ (by omega)
  have hn2 : ((L : Int) + 63) / 64 = (n : Int) := by omega
  have HN := Lib.hid hn
  clear hn
  go_enter Tryz.func30, Tryz.ntmps30
  go_wp2_with (go_at_call 41; go_in)
  go_ret
  exact ⟨ret_int (by first | rfl | omega), rfl⟩

set_option maxRecDepth 100000 in
set_option maxHeartbeats 1000000 in
theorem dif_core (B B2 p p2 L : Nat) (ws ws2 : List Nat) (cap cap2 : Nat) (w : World) (hb : Bs B w p L ws cap) (hb2 : Bs B2 w p2 L ws2 cap2) (hL : L ≤ 100000)
    (hwl : ws.length = (L + 63) / 64) (hwl2 : ws2.length = (L + 63) / 64) :
    Calls Tryz.prog 19 #[.pointer (some ⟨p, 0, none⟩), .pointer (some ⟨p2, 0, none⟩)] w fun e w' => ∃ r ws' cap', e = .returned (.pointer (some ⟨r, 0, none⟩)) ∧
      Bs w.heap.size w' r L ws' cap' ∧ L ≤ 64 * ws'.length ∧ (∀ j, Bsm.bit ws' j = (Bsm.bit ws j && !Bsm.bit ws2 j)) ∧ Below w.heap.size w w' := by
  obtain ⟨g, c0, c1, c2⟩ := hb.cells
  obtain ⟨g2, d0, d1, d2⟩ := hb2.cells
  obtain ⟨n, hn⟩ : ∃ n, ws.length = n := ⟨_, rfl⟩
  have hn2 : ws2.length = n := by omega
  have hlt := hb.word_lt
  have hlt2 := hb2.word_lt
  obtain ⟨f, hf⟩ : ∃ f : Nat → Nat, f = fun q => ws.getD q 0 ^^^ (ws.getD q 0 &&& ws2.getD q 0) := ⟨_, rfl⟩
  have hbt : ∀ j, Bsm.bit (Bsm.layf f ws n) j = (Bsm.bit ws j && !Bsm.bit ws2 j) := by
    intro j
    unfold Bsm.bit
    rw [Bsm.layf_getD _ _ _ _ (by omega)]
    by_cases hj : j / 64 < n
    · rw [if_pos hj, hf, Nat.testBit_xor, Nat.testBit_and]
      cases (ws.getD (j / 64) 0).testBit (j % 64) <;> cases (ws2.getD (j / 64) 0).testBit (j % 64) <;> rfl
    · rw [if_neg hj]
      have : ws.getD (j / 64) 0 = 0 := by rw [List.getD_eq_getElem?_getD, List.getElem?_eq_none (by omega)]; rfl
      rw [this, Nat.zero_testBit]
      rfl
  have hlen : (Bsm.layf f ws n).length = n := by rw [Bsm.layf_len, hn]
  rw [hn] at c1 c2
  rw [hn2] at d1 d2
  have hn3 : n ≤ 100000 := by omega
  have hL2n : L ≤ 64 * n := by omega
  have hwc := fun w' (h : Bs B w' p L ws cap) => wc_any B p L ws cap w' h hL n (by omega)
  have hwc2 := fun w' (h : Bs B2 w' p2 L ws2 cap2) => wc_any B2 p2 L ws2 cap2 w' h hL n (by omega)
  have HF := fun i => Lib.hid (show f i = ws.getD i 0 ^^^ (ws.getD i 0 &&& ws2.getD i 0) by rw [hf])
  have HLT := Lib.hid hlt
  have HLT2 := Lib.hid hlt2
  have HBT := Lib.hid hbt
  have HC2 := Lib.hid c2
  have HD2 := Lib.hid d2
  have HLEN := Lib.hid hlen
  have HB1 := Lib.hid hb
  have HB2 := Lib.hid hb2
  have HWL := Lib.hid hwl
  have HN := Lib.hid hn
  have HWC := Lib.hid hwc
  have HWC2 := Lib.hid hwc2
  clear hb hb2 hlt hlt2 hbt hn hn2 c2 d2 hlen hwl hwl2 hf hwc hwc2
  go_enter Tryz.func19, Tryz.ntmps19
  go_wp2_with fail
  refine (notnull_any _ _).mono ?_
  rintro e w' ⟨rfl, rfl⟩
  go_wp2_with fail
  refine (notnull_any _ _).mono ?_
  rintro e w' ⟨rfl, rfl⟩
  go_wp2_with fail
  refine (clone_any B p L ws cap _ HB1.out HWL.out (by omega)).mono ?_
  rintro e w1 ⟨r, rfl, hbs, hb1⟩
  obtain ⟨cp, hcp⟩ : ∃ cp, (L + 63) / 64 = cp := ⟨_, rfl⟩
  rw [hcp] at hbs
  obtain ⟨g', e0, e1, e2⟩ := hbs.cells
  rw [HN.out] at e1
  have HBS := Lib.hid hbs
  have k1 := HWC.out w1 (HB1.out.below hb1)
  have k2 := HWC2.out w1 (HB2.out.below hb1)
  have K1 := Lib.hid k1
  have K2 := Lib.hid k2
  clear hbs e2 e0 hcp k1 k2
  have c1' : w1.cell? ⟨p, 1, none⟩ = some (.slice (some ⟨g, 0, none⟩) n cap) := (hb1.cell (World.block_lt_of_cell? w _ c1)).trans c1
  have d1' : w1.cell? ⟨p2, 1, none⟩ = some (.slice (some ⟨g2, 0, none⟩) n cap2) := (hb1.cell (World.block_lt_of_cell? w _ d1)).trans d1
  go_wp2_with fail
  refine K2.out.mono ?_
  rintro e w' ⟨rfl, rfl⟩
  go_wp2_with fail
  refine K1.out.mono ?_
  rintro e w' ⟨rfl, rfl⟩
  go_wp2_with fail
  go_loopg [6] n (fun k idx wr => DifLoop f ws r L n cp g' w k idx wr)
  case atStart => exact ⟨0, rfl, by omega, HBS.out, e1, hb1⟩
  case round =>
    obtain ⟨i, rfl, hik, hbs, hc, hbel⟩ := hrel
    by_cases hi : i < n
    · cases gk with
      | zero => omega
      | succ k =>
        have hX := HLT.out i
        have hY := HLT2.out i
        have hi3 : (i : Int) < (n : Int) := by omega
        have hi4 : (0 : Int) ≤ (i : Int) := by omega
        have hcx := (hbel.cell (World.block_lt_of_cell? w _ (HC2.out i hi))).trans (HC2.out i hi)
        have hcy := (hbel.cell (World.block_lt_of_cell? w _ (HD2.out i hi))).trans (HD2.out i hi)
        have c1' := (hbel.cell (World.block_lt_of_cell? w _ c1)).trans c1
        have d1' := (hbel.cell (World.block_lt_of_cell? w _ d1)).trans d1
        have hl : (Bsm.layf f ws i).length = n := by rw [Bsm.layf_len, HN.out]
        have hfi := (HF i).out
        obtain ⟨X, hXX⟩ : ∃ X, ws.getD i 0 = X := ⟨_, rfl⟩
        obtain ⟨Y, hYY⟩ : ∃ Y, ws2.getD i 0 = Y := ⟨_, rfl⟩
        rw [hXX] at hcx hX hfi
        rw [hYY] at hcy hY hfi
        have hput := Bs.put hbs (by rw [hl]; exact hc) i (f i) (by rw [hfi]; exact Nat.xor_lt_two_pow (n := 64) hX (and_lt2 X Y hX)) (by omega)
        have hlay : (Bsm.layf f ws i).set i (f i) = Bsm.layf f ws (i + 1) := rfl
        rw [hlay, hl] at hput
        have hff := hput.2.2.1
        have hc2 := hput.2.2.2.1
        have hop : bits BinOp.andNot IntKind.u64 (X : Int) (Y : Int) = ((f i : Nat) : Int) := by rw [hfi]; exact andnot_word X Y hX hY
        have HX := Lib.hid hop
        have HP := Lib.hid hput
        clear hbs hput hl hX hY hlay hXX hYY hop hfi
        go_wp2_with fail
        refine wp_region_still_tail 20 (by kernel_rfl) (by kernel_rfl) ?_
        simp only [List.take_succ_cons, List.take_zero, List.drop_succ_cons, List.drop_zero]
        repeat still_step
        refine wpStill_nil ?_
        change wpList _ _ _ _ _ wr.drew
        go_wp2_with fail
        rw [HX.out]
        go_roundg k
        case measure => omega
        case rel => exact ⟨i + 1, by go_num, by omega, HP.out.1.drewN 1, HP.out.2.2.2.2, hbel.trans (HP.out.2.1.drew)⟩
    · obtain rfl : i = n := by omega
      go_wp2_with fail
      go_ret
      exact ⟨r, _, cp, rfl, hbs, by rw [HLEN.out]; exact hL2n, HBT.out, hbel⟩

theorem Bsm.posn_more (bs : List Bool) (m : Nat) : Bsm.posn bs (bs.length + m) = Bsm.pos bs := by
  induction m with
  | zero => rfl
  | succ m ih =>
    rw [← Nat.add_assoc]
    simp only [Bsm.posn]
    rw [ih, Bsm.getD_out bs (bs.length + m) (by omega)]
    simp
theorem Bsm.pos_congr (bs cs : List Bool) (h : ∀ j, bs.getD j false = cs.getD j false) : Bsm.pos bs = Bsm.pos cs := by
  rw [← Bsm.posn_more bs cs.length, ← Bsm.posn_more cs bs.length, Nat.add_comm cs.length]
  exact Bsm.posn_congr _ _ _ fun j _ => h j

theorem inter_road (q q2 : Addr) (B B2 p p2 L L2 : Nat) (ws ws2 : List Nat) (cap cap2 : Nat) (w : World) (hb : Bs B w p L ws cap) (hb2 : Bs B2 w p2 L2 ws2 cap2) (hL : L ≤ 100000) (h : L ≤ L2)
    (hwl : ws.length = (L + 63) / 64) (hwl2 : ws2.length = (L2 + 63) / 64)
    (hs : Calls Tryz.prog 28 #[.pointer (some q), .pointer (some q2)] w fun e w' => e = .returned (.tuple #[.pointer (some ⟨p, 0, none⟩), .pointer (some ⟨p2, 0, none⟩)]) ∧ ∃ nq, w' = w.drewN nq) :
    Calls Tryz.prog 18 #[.pointer (some q), .pointer (some q2)] w fun e w' => ∃ r ws' cap', e = .returned (.pointer (some ⟨r, 0, none⟩)) ∧
      Bs w.heap.size w' r L ws' cap' ∧ L ≤ 64 * ws'.length ∧ (∀ j, j < L → Bsm.bit ws' j = (Bsm.bit ws j && Bsm.bit ws2 j)) ∧ Below w.heap.size w w' :=
  (inter_core q q2 B B2 p p2 L L2 ws ws2 cap cap2 w hb hb2 hL h hwl hwl2 hs).mono fun _ _ ⟨r, ws', he, h1, h2, h3, h4⟩ => ⟨r, ws', _, he, h1, by omega, h3, h4⟩

set_option maxRecDepth 100000 in
set_option maxHeartbeats 4000000 in
theorem bsunion_any (v u : Value) (xs ys : List Bool)  (w : World) (hv : IsBits w v xs) (hu : IsBits w u ys) (hn : xs.length ≤ 3000) (hn2 : ys.length ≤ 3000) (he : Hid (ys.length = xs.length)) :
    Calls Tryz.prog 9 #[v, u] w fun e w' => ∃ v' cs, e = .returned v' ∧ OwnBits w.heap.size w' v' cs ∧ Bsm.pos cs = Bsm.pos (twos 0 xs ys) ∧ cs.length ≤ 10000 ∧ Below w.heap.size w w' := by
  have hv0 := hv
  have hu0 := hu
  obtain ⟨s, rfl, hs⟩ := hv
  obtain ⟨a, n, cap, rfl, _⟩ := hs
  obtain ⟨s2, rfl, hs2⟩ := hu
  obtain ⟨a2, n2, cap2, rfl, _⟩ := hs2
  have hb0 : Below w.heap.size w (((w.alloc (.cells #[.int .u64 (xs.length : Int), .slice a n cap] 39)).alloc (.cells #[.int .u64 (ys.length : Int), .slice a2 n2 cap2] 39)).alloc (.cells #[.int .u64 0, .slice none 0 0] 39)) := (((Below.refl _ _).alloc (Nat.le_refl _) _).alloc (by simp) _).alloc (by simp; omega) _
  have HV := Lib.hid (hv0.below rfl hb0)
  have HU := Lib.hid (hu0.below rfl hb0)
  have HB0 := Lib.hid hb0
  obtain ⟨w0, hw0⟩ : ∃ w0, w0 = (((w.alloc (.cells #[.int .u64 (xs.length : Int), .slice a n cap] 39)).alloc (.cells #[.int .u64 (ys.length : Int), .slice a2 n2 cap2] 39)).alloc (.cells #[.int .u64 0, .slice none 0 0] 39)) := ⟨_, rfl⟩
  have k0 : Blk w0 w.heap.size 39 #[.int .u64 (xs.length : Int), .slice a n cap] := by rw [hw0]; exact (((Blk.new w 39 #[.int .u64 (xs.length : Int), .slice a n cap]).alloc _).alloc _)
  have k1 : Blk w0 (w.heap.size + 1) 39 #[.int .u64 (ys.length : Int), .slice a2 n2 cap2] := by
    have := Blk.new (w.alloc (.cells #[.int .u64 (xs.length : Int), .slice a n cap] 39)) 39 #[.int .u64 (ys.length : Int), .slice a2 n2 cap2]
    rw [World.size_alloc] at this
    rw [hw0]; exact this.alloc _
  have k2 : Blk w0 (w.heap.size + 2) 39 #[.int .u64 0, .slice none 0 0] := by
    have := Blk.new ((w.alloc (.cells #[.int .u64 (xs.length : Int), .slice a n cap] 39)).alloc (.cells #[.int .u64 (ys.length : Int), .slice a2 n2 cap2] 39)) 39 #[.int .u64 0, .slice none 0 0]
    simp only [World.size_alloc] at this
    rw [hw0]; exact this
  have hz0 : w.heap.size + 2 < w0.heap.size := by rw [hw0]; simp
  rw [← hw0] at HV HU HB0
  clear hb0 hv0 hu0
  go_enter Tryz.func9, Tryz.ntmps9
  go_wp2_with fail
  rw [← hw0]
  clear hw0
  have x00 : w0.drew.cell? ⟨w.heap.size, 0, none⟩ = some (.int .u64 (xs.length : Int)) := k0.cell 0 rfl
  have x01 : w0.drew.cell? ⟨w.heap.size, 1, none⟩ = some (.slice a n cap) := k0.cell 1 rfl
  have x02 : w0.drew.cell? ⟨w.heap.size + 1, 0, none⟩ = some (.int .u64 (ys.length : Int)) := k1.cell 0 rfl
  have x03 : w0.drew.cell? ⟨w.heap.size + 1, 1, none⟩ = some (.slice a2 n2 cap2) := k1.cell 1 rfl
  have x04 : w0.drew.cell? ⟨w.heap.size + 2, 0, none⟩ = some (.int .u64 0) := k2.cell 0 rfl
  have x05 : w0.drew.cell? ⟨w.heap.size + 2, 1, none⟩ = some (.slice none 0 0) := k2.cell 1 rfl
  have HV0 := Lib.hid (HV.out.below rfl (Below.refl _ _).drew)
  have HU0 := Lib.hid (HU.out.below rfl (Below.refl _ _).drew)
  have hzd : w0.drew.heap.size = w0.heap.size := rfl
  have HZD := Lib.hid hzd
  have K2 : Hid (Blk w0.drew (w.heap.size + 2) 39 #[.int .u64 0, .slice none 0 0]) := k2
  clear k0 k1 k2 hzd
  have hne : ¬ w.heap.size + 1 + 1 = w.heap.size := by omega
  go_region_held3 (fun w' => w'.cell? ⟨w.heap.size, 0, none⟩ = some (.int .u64 (xs.length : Int)) ∧ w'.cell? ⟨w.heap.size, 1, none⟩ = some (.slice a n cap) ∧ w'.cell? ⟨w.heap.size + 1, 0, none⟩ = some (.int .u64 (ys.length : Int)) ∧ w'.cell? ⟨w.heap.size + 1, 1, none⟩ = some (.slice a2 n2 cap2))
    ((first | go_keep | exact ⟨by assumption, by assumption, by assumption, by assumption⟩ | assumption))
    ((first
        | (go_at_call 15; refine (said64_any _ r (ys.length) ws3 cap3 _ HB3.out HL3.out (by omega)).mono ?_; rintro e w4 ⟨v', rfl, hob, hb4⟩; have HOB := Lib.hid hob; obtain ⟨p', m', c', rfl, _⟩ := hob; have hz4 : w.heap.size + 2 < w4.heap.size := (by have := hb4.size; simp at *; omega); have x40 : w4.cell? ⟨w.heap.size, 0, none⟩ = some (.int .u64 (xs.length : Int)) := (hb4.cell (p := ⟨w.heap.size, 0, none⟩) (by simp; omega)).trans x30; have x41 : w4.cell? ⟨w.heap.size, 1, none⟩ = some (.slice a n cap) := (hb4.cell (p := ⟨w.heap.size, 1, none⟩) (by simp; omega)).trans x31; have x42 : w4.cell? ⟨w.heap.size + 1, 0, none⟩ = some (.int .u64 (ys.length : Int)) := (hb4.cell (p := ⟨w.heap.size + 1, 0, none⟩) (by simp; omega)).trans x32; have x43 : w4.cell? ⟨w.heap.size + 1, 1, none⟩ = some (.slice a2 n2 cap2) := (hb4.cell (p := ⟨w.heap.size + 1, 1, none⟩) (by simp; omega)).trans x33; have x44 : w4.cell? ⟨w.heap.size + 2, 0, none⟩ = some (.int .u64 0) := (hb4.cell (p := ⟨w.heap.size + 2, 0, none⟩) (by simp; omega)).trans x34; have x45 : w4.cell? ⟨w.heap.size + 2, 1, none⟩ = some (.slice none 0 0) := (hb4.cell (p := ⟨w.heap.size + 2, 1, none⟩) (by simp; omega)).trans x35; have y0 := ((((K2.out.below hb1 (by have := HZD.out; omega)).below hb2 (by omega)).below hb3 (by omega)).below hb4 (by omega)).free 0; have y1 := ((((K2.out.below hb1 (by have := HZD.out; omega)).below hb2 (by omega)).below hb3 (by omega)).below hb4 (by omega)).free 1)
        | (go_at_call 17; refine (uni_core ⟨p1, 0, none⟩ ⟨p2, 0, none⟩ _ _ p1 p2 _ _ ws1 ws2 _ _ _ (HB1.out.below hb2) HB2.out (by omega) (by have := he.out; omega) HWL1.out HWL2.out (sort_le _ _ p1 p2 _ _ ws1 ws2 _ _ _ (HB1.out.below hb2) HB2.out (by omega) (by omega) (by have := he.out; omega))).mono ?_; rintro e w3 ⟨r, ws3, cap3, rfl, hbs3, hl3, hbit3, hb3⟩; have HB3 := Lib.hid hbs3; have HL3 := Lib.hid hl3; have HBIT3 := Lib.hid hbit3; clear hbs3 hl3 hbit3; have hz3 : w.heap.size + 2 < w3.heap.size := (by have := hb3.size; simp at *; omega); have x30 : w3.cell? ⟨w.heap.size, 0, none⟩ = some (.int .u64 (xs.length : Int)) := (hb3.cell (p := ⟨w.heap.size, 0, none⟩) (by simp; omega)).trans x20; have x31 : w3.cell? ⟨w.heap.size, 1, none⟩ = some (.slice a n cap) := (hb3.cell (p := ⟨w.heap.size, 1, none⟩) (by simp; omega)).trans x21; have x32 : w3.cell? ⟨w.heap.size + 1, 0, none⟩ = some (.int .u64 (ys.length : Int)) := (hb3.cell (p := ⟨w.heap.size + 1, 0, none⟩) (by simp; omega)).trans x22; have x33 : w3.cell? ⟨w.heap.size + 1, 1, none⟩ = some (.slice a2 n2 cap2) := (hb3.cell (p := ⟨w.heap.size + 1, 1, none⟩) (by simp; omega)).trans x23; have x34 : w3.cell? ⟨w.heap.size + 2, 0, none⟩ = some (.int .u64 0) := (hb3.cell (p := ⟨w.heap.size + 2, 0, none⟩) (by simp; omega)).trans x24; have x35 : w3.cell? ⟨w.heap.size + 2, 1, none⟩ = some (.slice none 0 0) := (hb3.cell (p := ⟨w.heap.size + 2, 1, none⟩) (by simp; omega)).trans x25)
        | (go_at_call 16; refine (set64_any _ ys _ (HU0.out.below rfl hb1) (by omega)).mono ?_; rintro e w2 ⟨p2, ws2, rfl, hbs2, hwl2, hbit2, hb2⟩; rw [← hwl2] at hbs2; have HB2 := Lib.hid hbs2; have HWL2 := Lib.hid hwl2; have HBIT2 := Lib.hid hbit2; clear hbs2 hwl2 hbit2; have hz2 : w.heap.size + 2 < w2.heap.size := (by have := hb2.size; simp at *; omega); have x20 : w2.cell? ⟨w.heap.size, 0, none⟩ = some (.int .u64 (xs.length : Int)) := (hb2.cell (p := ⟨w.heap.size, 0, none⟩) (by simp; omega)).trans x10; have x21 : w2.cell? ⟨w.heap.size, 1, none⟩ = some (.slice a n cap) := (hb2.cell (p := ⟨w.heap.size, 1, none⟩) (by simp; omega)).trans x11; have x22 : w2.cell? ⟨w.heap.size + 1, 0, none⟩ = some (.int .u64 (ys.length : Int)) := (hb2.cell (p := ⟨w.heap.size + 1, 0, none⟩) (by simp; omega)).trans x12; have x23 : w2.cell? ⟨w.heap.size + 1, 1, none⟩ = some (.slice a2 n2 cap2) := (hb2.cell (p := ⟨w.heap.size + 1, 1, none⟩) (by simp; omega)).trans x13; have x24 : w2.cell? ⟨w.heap.size + 2, 0, none⟩ = some (.int .u64 0) := (hb2.cell (p := ⟨w.heap.size + 2, 0, none⟩) (by simp; omega)).trans x14; have x25 : w2.cell? ⟨w.heap.size + 2, 1, none⟩ = some (.slice none 0 0) := (hb2.cell (p := ⟨w.heap.size + 2, 1, none⟩) (by simp; omega)).trans x15)
        | (go_at_call 16; refine (set64_any _ xs _ HV0.out (by omega)).mono ?_; rintro e w1 ⟨p1, ws1, rfl, hbs1, hwl1, hbit1, hb1⟩; rw [← hwl1] at hbs1; have HB1 := Lib.hid hbs1; have HWL1 := Lib.hid hwl1; have HBIT1 := Lib.hid hbit1; clear hbs1 hwl1 hbit1; have hz1 : w.heap.size + 2 < w1.heap.size := (by have := hb1.size; have := HZD.out; omega); have x10 : w1.cell? ⟨w.heap.size, 0, none⟩ = some (.int .u64 (xs.length : Int)) := (hb1.cell (p := ⟨w.heap.size, 0, none⟩) (by simp; omega)).trans x00; have x11 : w1.cell? ⟨w.heap.size, 1, none⟩ = some (.slice a n cap) := (hb1.cell (p := ⟨w.heap.size, 1, none⟩) (by simp; omega)).trans x01; have x12 : w1.cell? ⟨w.heap.size + 1, 0, none⟩ = some (.int .u64 (ys.length : Int)) := (hb1.cell (p := ⟨w.heap.size + 1, 0, none⟩) (by simp; omega)).trans x02; have x13 : w1.cell? ⟨w.heap.size + 1, 1, none⟩ = some (.slice a2 n2 cap2) := (hb1.cell (p := ⟨w.heap.size + 1, 1, none⟩) (by simp; omega)).trans x03; have x14 : w1.cell? ⟨w.heap.size + 2, 0, none⟩ = some (.int .u64 0) := (hb1.cell (p := ⟨w.heap.size + 2, 0, none⟩) (by simp; omega)).trans x04; have x15 : w1.cell? ⟨w.heap.size + 2, 1, none⟩ = some (.slice none 0 0) := (hb1.cell (p := ⟨w.heap.size + 2, 1, none⟩) (by simp; omega)).trans x05)))
  go_wp2_with fail
  refine bodyPost_ret (v := .agg #[.int .u64 ((Bsm.bitsOf ws3 (ys.length)).length : Int), .slice p' m' c']) (by simp [results, Tryz.results9, go_sem, *]) rfl ?_
  refine ⟨_, Bsm.bitsOf ws3 (ys.length), rfl, ?_, ?_, by rw [Bsm.bitsOf_len]; omega, ((HB0.out.drew.trans ((hb1.mono (by have := HZD.out; omega)).trans ((hb2.mono (by omega)).trans ((hb3.mono (by omega)).trans (hb4.mono (by omega)))))).setCell (by simp; omega) _).setCell (by simp; omega) _⟩
  · exact ((HOB.out.set (a := ⟨w.heap.size + 2, 0, none⟩) (by simp; omega) (.int .u64 ((Bsm.bitsOf ws3 (ys.length)).length : Int))).set (a := ⟨w.heap.size + 2, 1, none⟩) (by simp; omega) (.slice p' m' c')).weaken (B' := w.heap.size) (by omega)
  · apply Bsm.pos_congr
    intro j
    rw [Bsm.bitsOf_get, twos_get _ _ _ (by omega)]
    rw [HBIT3.out, HBIT1.out, HBIT2.out]
    by_cases hj : j < ys.length
    · simp [hj, two]
    · rw [Bsm.getD_out xs j (by have := he.out; omega), Bsm.getD_out ys j (by have := he.out; omega)]; simp [two]

set_option maxRecDepth 100000 in
set_option maxHeartbeats 4000000 in
theorem bsinter_any (v u : Value) (xs ys : List Bool)  (w : World) (hv : IsBits w v xs) (hu : IsBits w u ys) (hn : xs.length ≤ 3000) (hn2 : ys.length ≤ 3000) (he : Hid (ys.length = xs.length)) :
    Calls Tryz.prog 10 #[v, u] w fun e w' => ∃ v' cs, e = .returned v' ∧ OwnBits w.heap.size w' v' cs ∧ Bsm.pos cs = Bsm.pos (twos 1 xs ys) ∧ cs.length ≤ 10000 ∧ Below w.heap.size w w' := by
  have hv0 := hv
  have hu0 := hu
  obtain ⟨s, rfl, hs⟩ := hv
  obtain ⟨a, n, cap, rfl, _⟩ := hs
  obtain ⟨s2, rfl, hs2⟩ := hu
  obtain ⟨a2, n2, cap2, rfl, _⟩ := hs2
  have hb0 : Below w.heap.size w (((w.alloc (.cells #[.int .u64 (xs.length : Int), .slice a n cap] 39)).alloc (.cells #[.int .u64 (ys.length : Int), .slice a2 n2 cap2] 39)).alloc (.cells #[.int .u64 0, .slice none 0 0] 39)) := (((Below.refl _ _).alloc (Nat.le_refl _) _).alloc (by simp) _).alloc (by simp; omega) _
  have HV := Lib.hid (hv0.below rfl hb0)
  have HU := Lib.hid (hu0.below rfl hb0)
  have HB0 := Lib.hid hb0
  obtain ⟨w0, hw0⟩ : ∃ w0, w0 = (((w.alloc (.cells #[.int .u64 (xs.length : Int), .slice a n cap] 39)).alloc (.cells #[.int .u64 (ys.length : Int), .slice a2 n2 cap2] 39)).alloc (.cells #[.int .u64 0, .slice none 0 0] 39)) := ⟨_, rfl⟩
  have k0 : Blk w0 w.heap.size 39 #[.int .u64 (xs.length : Int), .slice a n cap] := by rw [hw0]; exact (((Blk.new w 39 #[.int .u64 (xs.length : Int), .slice a n cap]).alloc _).alloc _)
  have k1 : Blk w0 (w.heap.size + 1) 39 #[.int .u64 (ys.length : Int), .slice a2 n2 cap2] := by
    have := Blk.new (w.alloc (.cells #[.int .u64 (xs.length : Int), .slice a n cap] 39)) 39 #[.int .u64 (ys.length : Int), .slice a2 n2 cap2]
    rw [World.size_alloc] at this
    rw [hw0]; exact this.alloc _
  have k2 : Blk w0 (w.heap.size + 2) 39 #[.int .u64 0, .slice none 0 0] := by
    have := Blk.new ((w.alloc (.cells #[.int .u64 (xs.length : Int), .slice a n cap] 39)).alloc (.cells #[.int .u64 (ys.length : Int), .slice a2 n2 cap2] 39)) 39 #[.int .u64 0, .slice none 0 0]
    simp only [World.size_alloc] at this
    rw [hw0]; exact this
  have hz0 : w.heap.size + 2 < w0.heap.size := by rw [hw0]; simp
  rw [← hw0] at HV HU HB0
  clear hb0 hv0 hu0
  go_enter Tryz.func10, Tryz.ntmps10
  go_wp2_with fail
  rw [← hw0]
  clear hw0
  have x00 : w0.drew.cell? ⟨w.heap.size, 0, none⟩ = some (.int .u64 (xs.length : Int)) := k0.cell 0 rfl
  have x01 : w0.drew.cell? ⟨w.heap.size, 1, none⟩ = some (.slice a n cap) := k0.cell 1 rfl
  have x02 : w0.drew.cell? ⟨w.heap.size + 1, 0, none⟩ = some (.int .u64 (ys.length : Int)) := k1.cell 0 rfl
  have x03 : w0.drew.cell? ⟨w.heap.size + 1, 1, none⟩ = some (.slice a2 n2 cap2) := k1.cell 1 rfl
  have x04 : w0.drew.cell? ⟨w.heap.size + 2, 0, none⟩ = some (.int .u64 0) := k2.cell 0 rfl
  have x05 : w0.drew.cell? ⟨w.heap.size + 2, 1, none⟩ = some (.slice none 0 0) := k2.cell 1 rfl
  have HV0 := Lib.hid (HV.out.below rfl (Below.refl _ _).drew)
  have HU0 := Lib.hid (HU.out.below rfl (Below.refl _ _).drew)
  have hzd : w0.drew.heap.size = w0.heap.size := rfl
  have HZD := Lib.hid hzd
  have K2 : Hid (Blk w0.drew (w.heap.size + 2) 39 #[.int .u64 0, .slice none 0 0]) := k2
  clear k0 k1 k2 hzd
  have hne : ¬ w.heap.size + 1 + 1 = w.heap.size := by omega
  go_region_held3 (fun w' => w'.cell? ⟨w.heap.size, 0, none⟩ = some (.int .u64 (xs.length : Int)) ∧ w'.cell? ⟨w.heap.size, 1, none⟩ = some (.slice a n cap) ∧ w'.cell? ⟨w.heap.size + 1, 0, none⟩ = some (.int .u64 (ys.length : Int)) ∧ w'.cell? ⟨w.heap.size + 1, 1, none⟩ = some (.slice a2 n2 cap2))
    ((first | go_keep | exact ⟨by assumption, by assumption, by assumption, by assumption⟩ | assumption))
    ((first
        | (go_at_call 15; refine (said64_any _ r (xs.length) ws3 cap3 _ HB3.out HL3.out (by omega)).mono ?_; rintro e w4 ⟨v', rfl, hob, hb4⟩; have HOB := Lib.hid hob; obtain ⟨p', m', c', rfl, _⟩ := hob; have hz4 : w.heap.size + 2 < w4.heap.size := (by have := hb4.size; simp at *; omega); have x40 : w4.cell? ⟨w.heap.size, 0, none⟩ = some (.int .u64 (xs.length : Int)) := (hb4.cell (p := ⟨w.heap.size, 0, none⟩) (by simp; omega)).trans x30; have x41 : w4.cell? ⟨w.heap.size, 1, none⟩ = some (.slice a n cap) := (hb4.cell (p := ⟨w.heap.size, 1, none⟩) (by simp; omega)).trans x31; have x42 : w4.cell? ⟨w.heap.size + 1, 0, none⟩ = some (.int .u64 (ys.length : Int)) := (hb4.cell (p := ⟨w.heap.size + 1, 0, none⟩) (by simp; omega)).trans x32; have x43 : w4.cell? ⟨w.heap.size + 1, 1, none⟩ = some (.slice a2 n2 cap2) := (hb4.cell (p := ⟨w.heap.size + 1, 1, none⟩) (by simp; omega)).trans x33; have x44 : w4.cell? ⟨w.heap.size + 2, 0, none⟩ = some (.int .u64 0) := (hb4.cell (p := ⟨w.heap.size + 2, 0, none⟩) (by simp; omega)).trans x34; have x45 : w4.cell? ⟨w.heap.size + 2, 1, none⟩ = some (.slice none 0 0) := (hb4.cell (p := ⟨w.heap.size + 2, 1, none⟩) (by simp; omega)).trans x35; have y0 := ((((K2.out.below hb1 (by have := HZD.out; omega)).below hb2 (by omega)).below hb3 (by omega)).below hb4 (by omega)).free 0; have y1 := ((((K2.out.below hb1 (by have := HZD.out; omega)).below hb2 (by omega)).below hb3 (by omega)).below hb4 (by omega)).free 1)
        | (go_at_call 18; refine (inter_road ⟨p1, 0, none⟩ ⟨p2, 0, none⟩ _ _ p1 p2 _ _ ws1 ws2 _ _ _ (HB1.out.below hb2) HB2.out (by omega) (by have := he.out; omega) HWL1.out HWL2.out (sort_le _ _ p1 p2 _ _ ws1 ws2 _ _ _ (HB1.out.below hb2) HB2.out (by omega) (by omega) (by have := he.out; omega))).mono ?_; rintro e w3 ⟨r, ws3, cap3, rfl, hbs3, hl3, hbit3, hb3⟩; have HB3 := Lib.hid hbs3; have HL3 := Lib.hid hl3; have HBIT3 := Lib.hid hbit3; clear hbs3 hl3 hbit3; have hz3 : w.heap.size + 2 < w3.heap.size := (by have := hb3.size; simp at *; omega); have x30 : w3.cell? ⟨w.heap.size, 0, none⟩ = some (.int .u64 (xs.length : Int)) := (hb3.cell (p := ⟨w.heap.size, 0, none⟩) (by simp; omega)).trans x20; have x31 : w3.cell? ⟨w.heap.size, 1, none⟩ = some (.slice a n cap) := (hb3.cell (p := ⟨w.heap.size, 1, none⟩) (by simp; omega)).trans x21; have x32 : w3.cell? ⟨w.heap.size + 1, 0, none⟩ = some (.int .u64 (ys.length : Int)) := (hb3.cell (p := ⟨w.heap.size + 1, 0, none⟩) (by simp; omega)).trans x22; have x33 : w3.cell? ⟨w.heap.size + 1, 1, none⟩ = some (.slice a2 n2 cap2) := (hb3.cell (p := ⟨w.heap.size + 1, 1, none⟩) (by simp; omega)).trans x23; have x34 : w3.cell? ⟨w.heap.size + 2, 0, none⟩ = some (.int .u64 0) := (hb3.cell (p := ⟨w.heap.size + 2, 0, none⟩) (by simp; omega)).trans x24; have x35 : w3.cell? ⟨w.heap.size + 2, 1, none⟩ = some (.slice none 0 0) := (hb3.cell (p := ⟨w.heap.size + 2, 1, none⟩) (by simp; omega)).trans x25)
        | (go_at_call 16; refine (set64_any _ ys _ (HU0.out.below rfl hb1) (by omega)).mono ?_; rintro e w2 ⟨p2, ws2, rfl, hbs2, hwl2, hbit2, hb2⟩; rw [← hwl2] at hbs2; have HB2 := Lib.hid hbs2; have HWL2 := Lib.hid hwl2; have HBIT2 := Lib.hid hbit2; clear hbs2 hwl2 hbit2; have hz2 : w.heap.size + 2 < w2.heap.size := (by have := hb2.size; simp at *; omega); have x20 : w2.cell? ⟨w.heap.size, 0, none⟩ = some (.int .u64 (xs.length : Int)) := (hb2.cell (p := ⟨w.heap.size, 0, none⟩) (by simp; omega)).trans x10; have x21 : w2.cell? ⟨w.heap.size, 1, none⟩ = some (.slice a n cap) := (hb2.cell (p := ⟨w.heap.size, 1, none⟩) (by simp; omega)).trans x11; have x22 : w2.cell? ⟨w.heap.size + 1, 0, none⟩ = some (.int .u64 (ys.length : Int)) := (hb2.cell (p := ⟨w.heap.size + 1, 0, none⟩) (by simp; omega)).trans x12; have x23 : w2.cell? ⟨w.heap.size + 1, 1, none⟩ = some (.slice a2 n2 cap2) := (hb2.cell (p := ⟨w.heap.size + 1, 1, none⟩) (by simp; omega)).trans x13; have x24 : w2.cell? ⟨w.heap.size + 2, 0, none⟩ = some (.int .u64 0) := (hb2.cell (p := ⟨w.heap.size + 2, 0, none⟩) (by simp; omega)).trans x14; have x25 : w2.cell? ⟨w.heap.size + 2, 1, none⟩ = some (.slice none 0 0) := (hb2.cell (p := ⟨w.heap.size + 2, 1, none⟩) (by simp; omega)).trans x15)
        | (go_at_call 16; refine (set64_any _ xs _ HV0.out (by omega)).mono ?_; rintro e w1 ⟨p1, ws1, rfl, hbs1, hwl1, hbit1, hb1⟩; rw [← hwl1] at hbs1; have HB1 := Lib.hid hbs1; have HWL1 := Lib.hid hwl1; have HBIT1 := Lib.hid hbit1; clear hbs1 hwl1 hbit1; have hz1 : w.heap.size + 2 < w1.heap.size := (by have := hb1.size; have := HZD.out; omega); have x10 : w1.cell? ⟨w.heap.size, 0, none⟩ = some (.int .u64 (xs.length : Int)) := (hb1.cell (p := ⟨w.heap.size, 0, none⟩) (by simp; omega)).trans x00; have x11 : w1.cell? ⟨w.heap.size, 1, none⟩ = some (.slice a n cap) := (hb1.cell (p := ⟨w.heap.size, 1, none⟩) (by simp; omega)).trans x01; have x12 : w1.cell? ⟨w.heap.size + 1, 0, none⟩ = some (.int .u64 (ys.length : Int)) := (hb1.cell (p := ⟨w.heap.size + 1, 0, none⟩) (by simp; omega)).trans x02; have x13 : w1.cell? ⟨w.heap.size + 1, 1, none⟩ = some (.slice a2 n2 cap2) := (hb1.cell (p := ⟨w.heap.size + 1, 1, none⟩) (by simp; omega)).trans x03; have x14 : w1.cell? ⟨w.heap.size + 2, 0, none⟩ = some (.int .u64 0) := (hb1.cell (p := ⟨w.heap.size + 2, 0, none⟩) (by simp; omega)).trans x04; have x15 : w1.cell? ⟨w.heap.size + 2, 1, none⟩ = some (.slice none 0 0) := (hb1.cell (p := ⟨w.heap.size + 2, 1, none⟩) (by simp; omega)).trans x05)))
  go_wp2_with fail
  refine bodyPost_ret (v := .agg #[.int .u64 ((Bsm.bitsOf ws3 (xs.length)).length : Int), .slice p' m' c']) (by simp [results, Tryz.results10, go_sem, *]) rfl ?_
  refine ⟨_, Bsm.bitsOf ws3 (xs.length), rfl, ?_, ?_, by rw [Bsm.bitsOf_len]; omega, ((HB0.out.drew.trans ((hb1.mono (by have := HZD.out; omega)).trans ((hb2.mono (by omega)).trans ((hb3.mono (by omega)).trans (hb4.mono (by omega)))))).setCell (by simp; omega) _).setCell (by simp; omega) _⟩
  · exact ((HOB.out.set (a := ⟨w.heap.size + 2, 0, none⟩) (by simp; omega) (.int .u64 ((Bsm.bitsOf ws3 (xs.length)).length : Int))).set (a := ⟨w.heap.size + 2, 1, none⟩) (by simp; omega) (.slice p' m' c')).weaken (B' := w.heap.size) (by omega)
  · apply Bsm.pos_congr
    intro j
    rw [Bsm.bitsOf_get, twos_get _ _ _ (by omega)]
    by_cases hj : j < xs.length
    · rw [HBIT3.out j hj, HBIT1.out, HBIT2.out]; simp [hj, two]
    · rw [Bsm.getD_out xs j (by have := he.out; omega), Bsm.getD_out ys j (by have := he.out; omega)]; simp [hj, two]

set_option maxRecDepth 100000 in
set_option maxHeartbeats 4000000 in
theorem bsdif_any (v u : Value) (xs ys : List Bool)  (w : World) (hv : IsBits w v xs) (hu : IsBits w u ys) (hn : xs.length ≤ 3000) (hn2 : ys.length ≤ 3000) (he : Hid (ys.length = xs.length)) :
    Calls Tryz.prog 11 #[v, u] w fun e w' => ∃ v' cs, e = .returned v' ∧ OwnBits w.heap.size w' v' cs ∧ Bsm.pos cs = Bsm.pos (twos 2 xs ys) ∧ cs.length ≤ 10000 ∧ Below w.heap.size w w' := by
  have hv0 := hv
  have hu0 := hu
  obtain ⟨s, rfl, hs⟩ := hv
  obtain ⟨a, n, cap, rfl, _⟩ := hs
  obtain ⟨s2, rfl, hs2⟩ := hu
  obtain ⟨a2, n2, cap2, rfl, _⟩ := hs2
  have hb0 : Below w.heap.size w (((w.alloc (.cells #[.int .u64 (xs.length : Int), .slice a n cap] 39)).alloc (.cells #[.int .u64 (ys.length : Int), .slice a2 n2 cap2] 39)).alloc (.cells #[.int .u64 0, .slice none 0 0] 39)) := (((Below.refl _ _).alloc (Nat.le_refl _) _).alloc (by simp) _).alloc (by simp; omega) _
  have HV := Lib.hid (hv0.below rfl hb0)
  have HU := Lib.hid (hu0.below rfl hb0)
  have HB0 := Lib.hid hb0
  obtain ⟨w0, hw0⟩ : ∃ w0, w0 = (((w.alloc (.cells #[.int .u64 (xs.length : Int), .slice a n cap] 39)).alloc (.cells #[.int .u64 (ys.length : Int), .slice a2 n2 cap2] 39)).alloc (.cells #[.int .u64 0, .slice none 0 0] 39)) := ⟨_, rfl⟩
  have k0 : Blk w0 w.heap.size 39 #[.int .u64 (xs.length : Int), .slice a n cap] := by rw [hw0]; exact (((Blk.new w 39 #[.int .u64 (xs.length : Int), .slice a n cap]).alloc _).alloc _)
  have k1 : Blk w0 (w.heap.size + 1) 39 #[.int .u64 (ys.length : Int), .slice a2 n2 cap2] := by
    have := Blk.new (w.alloc (.cells #[.int .u64 (xs.length : Int), .slice a n cap] 39)) 39 #[.int .u64 (ys.length : Int), .slice a2 n2 cap2]
    rw [World.size_alloc] at this
    rw [hw0]; exact this.alloc _
  have k2 : Blk w0 (w.heap.size + 2) 39 #[.int .u64 0, .slice none 0 0] := by
    have := Blk.new ((w.alloc (.cells #[.int .u64 (xs.length : Int), .slice a n cap] 39)).alloc (.cells #[.int .u64 (ys.length : Int), .slice a2 n2 cap2] 39)) 39 #[.int .u64 0, .slice none 0 0]
    simp only [World.size_alloc] at this
    rw [hw0]; exact this
  have hz0 : w.heap.size + 2 < w0.heap.size := by rw [hw0]; simp
  rw [← hw0] at HV HU HB0
  clear hb0 hv0 hu0
  go_enter Tryz.func11, Tryz.ntmps11
  go_wp2_with fail
  rw [← hw0]
  clear hw0
  have x00 : w0.drew.cell? ⟨w.heap.size, 0, none⟩ = some (.int .u64 (xs.length : Int)) := k0.cell 0 rfl
  have x01 : w0.drew.cell? ⟨w.heap.size, 1, none⟩ = some (.slice a n cap) := k0.cell 1 rfl
  have x02 : w0.drew.cell? ⟨w.heap.size + 1, 0, none⟩ = some (.int .u64 (ys.length : Int)) := k1.cell 0 rfl
  have x03 : w0.drew.cell? ⟨w.heap.size + 1, 1, none⟩ = some (.slice a2 n2 cap2) := k1.cell 1 rfl
  have x04 : w0.drew.cell? ⟨w.heap.size + 2, 0, none⟩ = some (.int .u64 0) := k2.cell 0 rfl
  have x05 : w0.drew.cell? ⟨w.heap.size + 2, 1, none⟩ = some (.slice none 0 0) := k2.cell 1 rfl
  have HV0 := Lib.hid (HV.out.below rfl (Below.refl _ _).drew)
  have HU0 := Lib.hid (HU.out.below rfl (Below.refl _ _).drew)
  have hzd : w0.drew.heap.size = w0.heap.size := rfl
  have HZD := Lib.hid hzd
  have K2 : Hid (Blk w0.drew (w.heap.size + 2) 39 #[.int .u64 0, .slice none 0 0]) := k2
  clear k0 k1 k2 hzd
  have hne : ¬ w.heap.size + 1 + 1 = w.heap.size := by omega
  go_region_held3 (fun w' => w'.cell? ⟨w.heap.size, 0, none⟩ = some (.int .u64 (xs.length : Int)) ∧ w'.cell? ⟨w.heap.size, 1, none⟩ = some (.slice a n cap) ∧ w'.cell? ⟨w.heap.size + 1, 0, none⟩ = some (.int .u64 (ys.length : Int)) ∧ w'.cell? ⟨w.heap.size + 1, 1, none⟩ = some (.slice a2 n2 cap2))
    ((first | go_keep | exact ⟨by assumption, by assumption, by assumption, by assumption⟩ | assumption))
    ((first
        | (go_at_call 15; refine (said64_any _ r (xs.length) ws3 cap3 _ HB3.out HL3.out (by omega)).mono ?_; rintro e w4 ⟨v', rfl, hob, hb4⟩; have HOB := Lib.hid hob; obtain ⟨p', m', c', rfl, _⟩ := hob; have hz4 : w.heap.size + 2 < w4.heap.size := (by have := hb4.size; simp at *; omega); have x40 : w4.cell? ⟨w.heap.size, 0, none⟩ = some (.int .u64 (xs.length : Int)) := (hb4.cell (p := ⟨w.heap.size, 0, none⟩) (by simp; omega)).trans x30; have x41 : w4.cell? ⟨w.heap.size, 1, none⟩ = some (.slice a n cap) := (hb4.cell (p := ⟨w.heap.size, 1, none⟩) (by simp; omega)).trans x31; have x42 : w4.cell? ⟨w.heap.size + 1, 0, none⟩ = some (.int .u64 (ys.length : Int)) := (hb4.cell (p := ⟨w.heap.size + 1, 0, none⟩) (by simp; omega)).trans x32; have x43 : w4.cell? ⟨w.heap.size + 1, 1, none⟩ = some (.slice a2 n2 cap2) := (hb4.cell (p := ⟨w.heap.size + 1, 1, none⟩) (by simp; omega)).trans x33; have x44 : w4.cell? ⟨w.heap.size + 2, 0, none⟩ = some (.int .u64 0) := (hb4.cell (p := ⟨w.heap.size + 2, 0, none⟩) (by simp; omega)).trans x34; have x45 : w4.cell? ⟨w.heap.size + 2, 1, none⟩ = some (.slice none 0 0) := (hb4.cell (p := ⟨w.heap.size + 2, 1, none⟩) (by simp; omega)).trans x35; have y0 := ((((K2.out.below hb1 (by have := HZD.out; omega)).below hb2 (by omega)).below hb3 (by omega)).below hb4 (by omega)).free 0; have y1 := ((((K2.out.below hb1 (by have := HZD.out; omega)).below hb2 (by omega)).below hb3 (by omega)).below hb4 (by omega)).free 1)
        | (go_at_call 19; refine (dif_core _ _ p1 p2 xs.length ws1 ws2 _ _ _ (HB1.out.below hb2) (he.out ▸ HB2.out) (by omega) HWL1.out (he.out ▸ HWL2.out)).mono ?_; rintro e w3 ⟨r, ws3, cap3, rfl, hbs3, hl3, hbit3, hb3⟩; have HB3 := Lib.hid hbs3; have HL3 := Lib.hid hl3; have HBIT3 := Lib.hid hbit3; clear hbs3 hl3 hbit3; have hz3 : w.heap.size + 2 < w3.heap.size := (by have := hb3.size; simp at *; omega); have x30 : w3.cell? ⟨w.heap.size, 0, none⟩ = some (.int .u64 (xs.length : Int)) := (hb3.cell (p := ⟨w.heap.size, 0, none⟩) (by simp; omega)).trans x20; have x31 : w3.cell? ⟨w.heap.size, 1, none⟩ = some (.slice a n cap) := (hb3.cell (p := ⟨w.heap.size, 1, none⟩) (by simp; omega)).trans x21; have x32 : w3.cell? ⟨w.heap.size + 1, 0, none⟩ = some (.int .u64 (ys.length : Int)) := (hb3.cell (p := ⟨w.heap.size + 1, 0, none⟩) (by simp; omega)).trans x22; have x33 : w3.cell? ⟨w.heap.size + 1, 1, none⟩ = some (.slice a2 n2 cap2) := (hb3.cell (p := ⟨w.heap.size + 1, 1, none⟩) (by simp; omega)).trans x23; have x34 : w3.cell? ⟨w.heap.size + 2, 0, none⟩ = some (.int .u64 0) := (hb3.cell (p := ⟨w.heap.size + 2, 0, none⟩) (by simp; omega)).trans x24; have x35 : w3.cell? ⟨w.heap.size + 2, 1, none⟩ = some (.slice none 0 0) := (hb3.cell (p := ⟨w.heap.size + 2, 1, none⟩) (by simp; omega)).trans x25)
        | (go_at_call 16; refine (set64_any _ ys _ (HU0.out.below rfl hb1) (by omega)).mono ?_; rintro e w2 ⟨p2, ws2, rfl, hbs2, hwl2, hbit2, hb2⟩; rw [← hwl2] at hbs2; have HB2 := Lib.hid hbs2; have HWL2 := Lib.hid hwl2; have HBIT2 := Lib.hid hbit2; clear hbs2 hwl2 hbit2; have hz2 : w.heap.size + 2 < w2.heap.size := (by have := hb2.size; simp at *; omega); have x20 : w2.cell? ⟨w.heap.size, 0, none⟩ = some (.int .u64 (xs.length : Int)) := (hb2.cell (p := ⟨w.heap.size, 0, none⟩) (by simp; omega)).trans x10; have x21 : w2.cell? ⟨w.heap.size, 1, none⟩ = some (.slice a n cap) := (hb2.cell (p := ⟨w.heap.size, 1, none⟩) (by simp; omega)).trans x11; have x22 : w2.cell? ⟨w.heap.size + 1, 0, none⟩ = some (.int .u64 (ys.length : Int)) := (hb2.cell (p := ⟨w.heap.size + 1, 0, none⟩) (by simp; omega)).trans x12; have x23 : w2.cell? ⟨w.heap.size + 1, 1, none⟩ = some (.slice a2 n2 cap2) := (hb2.cell (p := ⟨w.heap.size + 1, 1, none⟩) (by simp; omega)).trans x13; have x24 : w2.cell? ⟨w.heap.size + 2, 0, none⟩ = some (.int .u64 0) := (hb2.cell (p := ⟨w.heap.size + 2, 0, none⟩) (by simp; omega)).trans x14; have x25 : w2.cell? ⟨w.heap.size + 2, 1, none⟩ = some (.slice none 0 0) := (hb2.cell (p := ⟨w.heap.size + 2, 1, none⟩) (by simp; omega)).trans x15)
        | (go_at_call 16; refine (set64_any _ xs _ HV0.out (by omega)).mono ?_; rintro e w1 ⟨p1, ws1, rfl, hbs1, hwl1, hbit1, hb1⟩; rw [← hwl1] at hbs1; have HB1 := Lib.hid hbs1; have HWL1 := Lib.hid hwl1; have HBIT1 := Lib.hid hbit1; clear hbs1 hwl1 hbit1; have hz1 : w.heap.size + 2 < w1.heap.size := (by have := hb1.size; have := HZD.out; omega); have x10 : w1.cell? ⟨w.heap.size, 0, none⟩ = some (.int .u64 (xs.length : Int)) := (hb1.cell (p := ⟨w.heap.size, 0, none⟩) (by simp; omega)).trans x00; have x11 : w1.cell? ⟨w.heap.size, 1, none⟩ = some (.slice a n cap) := (hb1.cell (p := ⟨w.heap.size, 1, none⟩) (by simp; omega)).trans x01; have x12 : w1.cell? ⟨w.heap.size + 1, 0, none⟩ = some (.int .u64 (ys.length : Int)) := (hb1.cell (p := ⟨w.heap.size + 1, 0, none⟩) (by simp; omega)).trans x02; have x13 : w1.cell? ⟨w.heap.size + 1, 1, none⟩ = some (.slice a2 n2 cap2) := (hb1.cell (p := ⟨w.heap.size + 1, 1, none⟩) (by simp; omega)).trans x03; have x14 : w1.cell? ⟨w.heap.size + 2, 0, none⟩ = some (.int .u64 0) := (hb1.cell (p := ⟨w.heap.size + 2, 0, none⟩) (by simp; omega)).trans x04; have x15 : w1.cell? ⟨w.heap.size + 2, 1, none⟩ = some (.slice none 0 0) := (hb1.cell (p := ⟨w.heap.size + 2, 1, none⟩) (by simp; omega)).trans x05)))
  go_wp2_with fail
  refine bodyPost_ret (v := .agg #[.int .u64 ((Bsm.bitsOf ws3 (xs.length)).length : Int), .slice p' m' c']) (by simp [results, Tryz.results11, go_sem, *]) rfl ?_
  refine ⟨_, Bsm.bitsOf ws3 (xs.length), rfl, ?_, ?_, by rw [Bsm.bitsOf_len]; omega, ((HB0.out.drew.trans ((hb1.mono (by have := HZD.out; omega)).trans ((hb2.mono (by omega)).trans ((hb3.mono (by omega)).trans (hb4.mono (by omega)))))).setCell (by simp; omega) _).setCell (by simp; omega) _⟩
  · exact ((HOB.out.set (a := ⟨w.heap.size + 2, 0, none⟩) (by simp; omega) (.int .u64 ((Bsm.bitsOf ws3 (xs.length)).length : Int))).set (a := ⟨w.heap.size + 2, 1, none⟩) (by simp; omega) (.slice p' m' c')).weaken (B' := w.heap.size) (by omega)
  · apply Bsm.pos_congr
    intro j
    rw [Bsm.bitsOf_get, twos_get _ _ _ (by omega)]
    rw [HBIT3.out, HBIT1.out, HBIT2.out]
    by_cases hj : j < xs.length
    · simp [hj, two]
    · rw [Bsm.getD_out xs j (by have := he.out; omega), Bsm.getD_out ys j (by have := he.out; omega)]; simp [two]
end Go.Proofs.YtgifbdjifmoafaaGreat
