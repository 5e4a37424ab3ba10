/- Walks of BitSet's sortByLength and Intersection. -/
import Derived.Test.YtbgmkojiklphmaaBsIn
import Derived.Test.YtbgmkojiklphmaaBsWhole
namespace Go.Proofs.Ytbgmkojiklphmaa
set_option linter.unusedVariables false
open Go.RowKit

set_option maxRecDepth 100000 in
set_option maxHeartbeats 400000 in
theorem sort_le (B B2 p p2 L L2 : Nat) (ws ws2 : List Nat) (cap cap2 : Nat) (w : World) (hb : Bs B w p L ws cap) (hb2 : Bs B2 w p2 L2 ws2 cap2) (hL : L ≤ 100000) (hL2 : L2 ≤ 100000) (h : L ≤ L2) :
    Calls Try.prog 97 #[.pointer (some ⟨p, 0, none⟩), .pointer (some ⟨p2, 0, none⟩)] w fun e w' => e = .returned (.tuple #[.pointer (some ⟨p, 0, none⟩), .pointer (some ⟨p2, 0, none⟩)]) ∧ ∃ nq, w' = w.drewN nq := by
  obtain ⟨g, c0, c1, c2⟩ := hb.cells
  obtain ⟨g', d0, d1, d2⟩ := hb2.cells
  clear c2 d2 c1 d1
  go_enter Try.func97, Try.ntmps97
  go_wp2_with fail
  go_quiet (fail)
  go_wp2_with fail
  go_ret2
  exact ⟨rfl, _, rfl⟩

set_option maxRecDepth 100000 in
set_option maxHeartbeats 400000 in
theorem sort_gt (B B2 p p2 L L2 : Nat) (ws ws2 : List Nat) (cap cap2 : Nat) (w : World) (hb : Bs B w p L ws cap) (hb2 : Bs B2 w p2 L2 ws2 cap2) (hL : L ≤ 100000) (hL2 : L2 ≤ 100000) (h : L2 < L) :
    Calls Try.prog 97 #[.pointer (some ⟨p, 0, none⟩), .pointer (some ⟨p2, 0, none⟩)] w fun e w' => e = .returned (.tuple #[.pointer (some ⟨p2, 0, none⟩), .pointer (some ⟨p, 0, none⟩)]) ∧ ∃ nq, w' = w.drewN nq := by
  obtain ⟨g, c0, c1, c2⟩ := hb.cells
  obtain ⟨g', d0, d1, d2⟩ := hb2.cells
  clear c2 d2 c1 d1
  go_enter Try.func97, Try.ntmps97
  go_wp2_with fail
  go_quiet (fail)
  go_wp2_with fail
  go_ret2
  exact ⟨rfl, _, rfl⟩

theorem and_lt (X Y : Nat) (hX : X < 18446744073709551616) : X &&& Y < 18446744073709551616 := Nat.lt_of_le_of_lt Nat.and_le_left hX

def MeetLoop (f : Nat → Nat) (r L n cap g' : Nat) (w : World) (k : Nat) (idx : Value) (wr : World) : Prop :=
  ∃ i : Nat, idx = .int .i64 (i : Int) ∧ i + k = n ∧ Bs w.heap.size wr r L (Bsm.layf f (List.replicate n 0) i) cap ∧ wr.cell? ⟨r, 1, none⟩ = some (.slice (some ⟨g', 0, none⟩) n cap) ∧ Below w.heap.size w wr

set_option maxRecDepth 100000 in
set_option maxHeartbeats 1000000 in
theorem inter_core (q q2 : Addr) (B B2 p p2 L L2 : Nat) (ws ws2 : List Nat) (cap cap2 : Nat) (w : World) (hb : Bs B w p L ws cap) (hb2 : Bs B2 w p2 L2 ws2 cap2) (hL : L ≤ 100000) (h : L ≤ L2)
    (hwl : ws.length = (L + 63) / 64) (hwl2 : ws2.length = (L2 + 63) / 64)
    (hs : Calls Try.prog 97 #[.pointer (some q), .pointer (some q2)] w fun e w' => e = .returned (.tuple #[.pointer (some ⟨p, 0, none⟩), .pointer (some ⟨p2, 0, none⟩)]) ∧ ∃ nq, w' = w.drewN nq) :
    Calls Try.prog 76 #[.pointer (some q), .pointer (some q2)] w fun e w' => ∃ r ws', e = .returned (.pointer (some ⟨r, 0, none⟩)) ∧
      Bs w.heap.size w' r L ws' ((L + 63) / 64) ∧ ws'.length = (L + 63) / 64 ∧ (∀ j, j < L → Bsm.bit ws' j = (Bsm.bit ws j && Bsm.bit ws2 j)) ∧ Below w.heap.size w w' := by
  obtain ⟨g, c0, c1, c2⟩ := hb.cells
  obtain ⟨g2, d0, d1, d2⟩ := hb2.cells
  obtain ⟨n, hn⟩ : ∃ n, ws.length = n := ⟨_, rfl⟩
  obtain ⟨n2, hn2⟩ : ∃ n2, ws2.length = n2 := ⟨_, rfl⟩
  have hlt := hb.word_lt
  have hlt2 := hb2.word_lt
  obtain ⟨f, hf⟩ : ∃ f : Nat → Nat, f = fun q => ws.getD q 0 &&& ws2.getD q 0 := ⟨_, rfl⟩
  have hbt : ∀ j, j < L → Bsm.bit (Bsm.layf f (List.replicate n 0) n) j = (Bsm.bit ws j && Bsm.bit ws2 j) := by
    intro j hj
    unfold Bsm.bit
    rw [Bsm.layf_getD _ _ _ _ (by simp), if_pos (by omega), hf, Nat.testBit_and]
  have hlen : (Bsm.layf f (List.replicate n 0) n).length = n := by rw [Bsm.layf_len, List.length_replicate]
  rw [hn] at c1 c2
  rw [hn2] at d1 d2
  have hn0 : (L + 63) / 64 = n := by omega
  rw [hn0]
  have hnn : n ≤ n2 := by omega
  have hn3 : n ≤ 100000 := by omega
  have HF := fun i => Lib.hid (show f i = ws.getD i 0 &&& ws2.getD i 0 by rw [hf])
  have HLT := Lib.hid hlt
  have HLT2 := Lib.hid hlt2
  have HBT := Lib.hid hbt
  have HC2 := Lib.hid c2
  have HD2 := Lib.hid d2
  have HLEN := Lib.hid hlen
  have HN0 := Lib.hid hn0
  have HS := Lib.hid hs
  clear hb hb2 hlt hlt2 hbt hn hn2 c2 d2 hlen hwl hwl2 hn0 hf hs
  go_enter Try.func76, Try.ntmps76
  go_wp2_with fail
  refine (notnull_any _ _).mono ?_
  rintro e w' ⟨rfl, rfl⟩
  go_wp2_with fail
  refine (notnull_any _ _).mono ?_
  rintro e w' ⟨rfl, rfl⟩
  go_wp2_with fail
  refine HS.out.mono ?_
  rintro e w' ⟨rfl, nq, rfl⟩
  go_wp2_with fail
  refine (new_any L _ (by omega)).mono ?_
  rintro e w1 ⟨r, rfl, hbs, hb1⟩
  rw [HN0.out] at hbs
  have hb1 : Below w.heap.size w w1 := (below_drewN (Below.refl _ _) nq).trans hb1
  replace hbs : Bs w.heap.size w1 r L (List.replicate n 0) n := hbs
  obtain ⟨g', e0, e1, e2⟩ := hbs.cells
  rw [List.length_replicate] at e1
  have HBS := Lib.hid hbs
  clear hbs e2 e0
  have c1' : w1.cell? ⟨p, 1, none⟩ = some (.slice (some ⟨g, 0, none⟩) n cap) := (hb1.cell (World.block_lt_of_cell? w _ c1)).trans c1
  go_wp2_with fail
  go_loopg [27] n (fun k idx wr => MeetLoop f r L n n g' w k idx wr)
  case atStart => exact ⟨0, rfl, by omega, HBS.out, e1, hb1⟩
  case round =>
    obtain ⟨i, rfl, hik, hbs, hc, hbel⟩ := hrel
    by_cases hi : i < n
    · cases gk with
      | zero => omega
      | succ k =>
        have hX := HLT.out i
        have hY := HLT2.out i
        have hi2 : i < n2 := by omega
        have hi3 : (i : Int) < (n2 : Int) := by omega
        have hi4 : (0 : Int) ≤ (i : Int) := by omega
        have hcx := (hbel.cell (World.block_lt_of_cell? w _ (HC2.out i hi))).trans (HC2.out i hi)
        have hcy := (hbel.cell (World.block_lt_of_cell? w _ (HD2.out i (by omega)))).trans (HD2.out i (by omega))
        have d1' := (hbel.cell (World.block_lt_of_cell? w _ d1)).trans d1
        have hl : (Bsm.layf f (List.replicate n 0) i).length = n := by rw [Bsm.layf_len, List.length_replicate]
        have hfi := (HF i).out
        obtain ⟨X, hXX⟩ : ∃ X, ws.getD i 0 = X := ⟨_, rfl⟩
        obtain ⟨Y, hYY⟩ : ∃ Y, ws2.getD i 0 = Y := ⟨_, rfl⟩
        rw [hXX] at hcx hX hfi
        rw [hYY] at hcy hY hfi
        have hput := Bs.put hbs (by rw [hl]; exact hc) i (f i) (by rw [hfi]; exact and_lt X Y hX) (by omega)
        have hlay : (Bsm.layf f (List.replicate n 0) i).set i (f i) = Bsm.layf f (List.replicate n 0) (i + 1) := rfl
        rw [hlay, hl] at hput
        have hff := hput.2.2.1
        have hc2 := hput.2.2.2.1
        have hop : bits BinOp.and IntKind.u64 (X : Int) (Y : Int) = ((f i : Nat) : Int) := by rw [hfi]; exact u64_and_nat X Y hX hY
        have HX := Lib.hid hop
        have HP := Lib.hid hput
        clear hbs hput hl hX hY hlay hXX hYY hop hfi
        go_wp2_with fail
        refine wp_region_still_tail 14 (by kernel_rfl) (by kernel_rfl) ?_
        simp only [List.take_succ_cons, List.take_zero, List.drop_succ_cons, List.drop_zero]
        repeat still_step
        refine wpStill_nil ?_
        change wpList _ _ _ _ _ wr.drew
        go_wp2_with fail
        rw [HX.out]
        go_roundg k
        case measure => omega
        case rel => exact ⟨i + 1, by go_num, by omega, HP.out.1.drewN 1, HP.out.2.2.2.2, hbel.trans (HP.out.2.1.drew)⟩
    · obtain rfl : i = n := by omega
      go_wp2_with fail
      go_ret
      exact ⟨r, _, rfl, hbs, HLEN.out, HBT.out, hbel⟩
end Go.Proofs.Ytbgmkojiklphmaa
