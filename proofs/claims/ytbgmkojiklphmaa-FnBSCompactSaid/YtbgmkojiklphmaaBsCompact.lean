/- Walks of (*BitSet).Shrink at whole words and of Compact. -/
import Derived.Test.YtbgmkojiklphmaaBsDelete
import Derived.Test.YtbgmkojiklphmaaBsDelSpec
import Derived.Outline
namespace Go.Proofs.Ytbgmkojiklphmaa
set_option linter.unusedVariables false
open Go.RowKit

set_option maxRecDepth 100000 in
set_option maxHeartbeats 1000000 in
/-- Shrink to a place beyond the end does nothing -/
theorem shrink_none (B p L : Nat) (ws : List Nat) (cap : Nat) (I : Int) (w : World) (hb : Bs B w p L ws cap) (hI : (L : Int) ≤ I) (hI2 : I ≤ 100000) :
    Calls Try.prog 89 #[.pointer (some ⟨p, 0, none⟩), .int .u64 I] w fun e w' => e = .returned (.pointer (some ⟨p, 0, none⟩)) ∧ w = w' := by
  obtain ⟨g, c0, c1, c2⟩ := hb.cells
  clear hb c2
  go_enter Try.func89, Try.ntmps89
  go_wp2_with fail
  go_ret
  exact ⟨rfl, rfl⟩

set_option maxRecDepth 100000 in
set_option maxHeartbeats 2000000 in
/-- Shrink to m words -/
theorem shrink_any (B p L m : Nat) (ws : List Nat) (cap : Nat) (I : Int) (hI : I = 64 * (m : Int) - 1) (w : World) (hb : Bs B w p L ws cap) (hm : 1 ≤ m) (hmL : 64 * m ≤ L) (hwl : L ≤ 64 * ws.length) (hL : L ≤ 10000) (hBw : B ≤ w.heap.size) :
    Calls Try.prog 89 #[.pointer (some ⟨p, 0, none⟩), .int .u64 I] w fun e w' => e = .returned (.pointer (some ⟨p, 0, none⟩)) ∧
      Bs B w' p (64 * m) (ws.take m) m ∧ Below B w w' := by
  obtain ⟨n, hn⟩ : ∃ n, ws.length = n := ⟨_, rfl⟩
  obtain ⟨g, h1, h2, h3, h4, h5⟩ := hb
  rw [hn] at h3 h4 hwl
  have c0 : w.cell? ⟨p, 0, none⟩ = some (.int .u64 (L : Int)) := h3.cell 0 rfl
  have c1 : w.cell? ⟨p, 1, none⟩ = some (.slice (some ⟨g, 0, none⟩) n cap) := h3.cell 1 rfl
  have f0 := h3.free 0
  have f1 := h3.free 1
  have hmn : m ≤ n := by omega
  have hIL : I < (L : Int) := by omega
  have hI0 : 0 ≤ I := by omega
  have hI1 : I + 1 = 64 * (m : Int) := by omega
  have hnd : (64 * (m : Int) + 63) / 64 = (m : Int) := by omega
  have hm6 : (64 * (m : Int)) % 64 = 0 := by omega
  have hm5 : m ≤ 1000 := by omega
  have hcap := ownsRow_cap h4
  have hsl := fun W => run_slice_to (some ⟨g, 0, none⟩) n cap m .i64 (m : Int) rfl (by omega) W
  have hsm := (Sl.of_owns h4).take m hmn
  rw [show (u64s ws).take m = u64s (ws.take m) from by simp [u64s, List.map_take]] at hsm
  have hlm : (u64s (ws.take m)).length = m := by rw [u64s_len, List.length_take, hn]; omega
  have H3 := Lib.hid h3
  have HS := Lib.hid hsm
  have H5 := Lib.hid h5
  have HN := Lib.hid hn
  have HLM := Lib.hid hlm
  clear h3 h4 h5 hn hsm hlm hI
  go_enter Try.func89, Try.ntmps89
  go_wp2_with fail
  refine (needed_any _ _ (by omega) (by omega)).mono ?_
  rintro e w' ⟨rfl, rfl⟩
  rw [hnd]
  go_wp2_with (first | (at_make; refine wpList_make1 rfl _ _ 36 rfl w.heap.size 63 (.int .u64 0) 8 Try.underlying36 info_w64 rfl _ _ _ _ m rfl rfl rfl rfl (by omega) (by unfold maxLen; omega) (Nat.le_refl _) ?_; intro w1 hown1 hb1 hs1; have bk := H3.out.below hb1 H3.out.lt; have d1 : w1.cell? ⟨p, 1, none⟩ = some (.slice (some ⟨g, 0, none⟩) n cap) := bk.cell 1 rfl; have d0 : w1.cell? ⟨p, 0, none⟩ = some (.int .u64 (L : Int)) := bk.cell 0 rfl; have e0 := bk.free 0; have e1 := bk.free 1; have HBK := Lib.hid bk; clear bk) | (refine wpList_copySl rfl _ _ 36 36 rfl w.heap.size 63 (.int .u64 0) 8 Try.underlying36 info_w64 _ m m _ rfl hown1 _ (u64s (ws.take m)) rfl (HS.out.below rfl hb1) (by rw [HLM.out]; omega) (u64_cells _) ?_; intro w2 hown2 hg2 hb2; have bk2 := HBK.out.below hb2 H3.out.lt; have q1 : w2.cell? ⟨p, 1, none⟩ = some (.slice (some ⟨g, 0, none⟩) n cap) := bk2.cell 1 rfl; have q0 : w2.cell? ⟨p, 0, none⟩ = some (.int .u64 (L : Int)) := bk2.cell 0 rfl; have z0 := bk2.free 0; have z1 := bk2.free 1; have HBK2 := Lib.hid bk2; clear bk2))
  go_ret
  have hpw := H3.out.lt
  have e64 : 64 * (m : Int) = ((64 * m : Nat) : Int) := by push_cast; rfl
  have er : u64s (ws.take m) ++ (List.replicate m (Value.int .u64 0)).drop (u64s (ws.take m)).length = u64s (ws.take m) := by
    rw [HLM.out, List.drop_eq_nil_of_le (by simp), List.append_nil]
  have el : (ws.take m).length = m := by rw [← u64s_len]; exact HLM.out
  rw [er] at hown2
  have hbk := (HBK2.out.set 1 (.slice (some ⟨w.heap.size, 0, none⟩) m m)).set 0 (.int .u64 (64 * (m : Int)))
  have ho := ownsRow_setCell_below (ownsRow_setCell_below hown2 (a := ⟨p, 1, none⟩) hpw (.slice (some ⟨w.heap.size, 0, none⟩) m m)) (a := ⟨p, 0, none⟩) hpw (.int .u64 (64 * (m : Int)))
  refine ⟨rfl, ⟨w.heap.size, h1, by omega, ?_, ?_, fun x hx => H5.out x (List.mem_of_mem_take hx)⟩, (((hb1.trans hb2).mono hBw).setCell h1 _).setCell h1 _⟩
  · rw [el, ← e64]; simpa using hbk
  · rw [el]; exact ownsRow_weaken ho hBw

def CmpLoop (ws : List Nat) (n : Nat) (w : World) (k : Nat) (idx : Value) (wr : World) : Prop :=
  ∃ x : Int, idx = .int .i64 x ∧ x + 1 = (k : Int) ∧ k ≤ n ∧ (∀ q, k ≤ q → ws.getD q 0 = 0) ∧ wr = w

set_option maxRecDepth 100000 in
set_option maxHeartbeats 2000000 in
theorem compact_any (B p L : Nat) (ws : List Nat) (cap : Nat) (w : World) (hb : Bs B w p L ws cap) (hwl : ws.length = (L + 63) / 64) (hL : L ≤ 10000) (hBw : B ≤ w.heap.size) (hclean : ∀ j, L ≤ j → Bsm.bit ws j = false) :
    Calls Try.prog 62 #[.pointer (some ⟨p, 0, none⟩)] w fun e w' => e = .returned (.pointer (some ⟨p, 0, none⟩)) ∧
      ∃ L' ws' cap', Bs B w' p L' ws' cap' ∧ L' ≤ 64 * ws'.length ∧ L' ≤ 10000 ∧ (∀ j, (decide (j < L') && Bsm.bit ws' j) = Bsm.bit ws j) ∧ Below B w w' := by
  obtain ⟨g, c0, c1, c2⟩ := hb.cells
  obtain ⟨n, hn⟩ : ∃ n, ws.length = n := ⟨_, rfl⟩
  have hwlt := hb.word_lt
  have hn5 : n ≤ 1000 := by omega
  have hout : ∀ q, n ≤ q → ws.getD q 0 = 0 := fun q hq => by rw [List.getD_eq_getElem?_getD, List.getElem?_eq_none (by omega)]; rfl
  have hsame : ∀ j, (decide (j < L) && Bsm.bit ws j) = Bsm.bit ws j := fun j => by
    by_cases h : j < L
    · simp [h]
    · rw [hclean j (by omega)]; simp
  have htake : ∀ m, (∀ q, m ≤ q → ws.getD q 0 = 0) → ∀ j, (decide (j < 64 * m) && Bsm.bit (ws.take m) j) = Bsm.bit ws j := fun m hm j => by
    by_cases h : j < 64 * m
    · rw [Bsm.take_bit _ _ _ h]; simp [h]
    · have e : Bsm.bit ws j = false := by unfold Bsm.bit; rw [hm (j / 64) (by omega)]; simp
      rw [e]; simp [h]
  have hcell : ∀ q, q < n → w.cell? ⟨g, q, none⟩ = some (.int .u64 (ws.getD q 0 : Nat)) := fun q hq => c2 q (by omega)
  rw [hn] at c1
  have HB := Lib.hid hb
  have HN := Lib.hid hn
  have HWL := Lib.hid hwl
  have HSAME := Lib.hid hsame
  have HTAKE := Lib.hid htake
  have HCELL := Lib.hid hcell
  have HOUT := Lib.hid hout
  clear hb hn hwl hsame htake hcell c2 hclean hwlt hout
  go_enter Try.func62, Try.ntmps62
  go_wp2_with fail
  go_loopg [3] n (fun k idx wr => CmpLoop ws n w k idx wr)
  case atStart => exact ⟨_, rfl, by omega, Nat.le_refl _, HOUT.out, rfl⟩
  case round =>
    obtain ⟨x, rfl, hx, hkn, hz, rfl⟩ := hrel
    have HZ := Lib.hid hz
    clear hz
    cases gk with
    | zero =>
      obtain rfl : x = -1 := by omega
      by_cases hL0 : L = 0
      · have hL1 : (L : Int) = 0 := by omega
        go_wp2_with fail
        go_ret
        exact ⟨rfl, L, ws, cap, HB.out, by have := HWL.out; omega, hL, HSAME.out, Below.refl _ _⟩
      · have hL1 : ¬ (L : Int) = 0 := by omega
        by_cases h64 : L ≤ 63
        · go_wp2_with fail
          refine (shrink_none B p L ws cap 63 _ HB.out (by omega) (by omega)).mono ?_
          rintro e w2 ⟨rfl, rfl⟩
          go_wp2_with fail
          go_ret
          exact ⟨rfl, L, ws, cap, HB.out, by have := HWL.out; omega, hL, HSAME.out, Below.refl _ _⟩
        · go_wp2_with fail
          refine (shrink_any B p L 1 ws cap 63 (by omega) _ HB.out (by omega) (by omega) (by have := HWL.out; omega) hL hBw).mono ?_
          rintro e w2 ⟨rfl, hb2, hbel⟩
          have HB2 := Lib.hid hb2
          clear hb2
          go_wp2_with fail
          go_ret
          exact ⟨rfl, 64 * 1, ws.take 1, 1, HB2.out, by have := HWL.out; rw [List.length_take]; omega, by omega, HTAKE.out 1 (fun q hq => HZ.out q (by omega)), hbel⟩
    | succ k =>
      obtain rfl : x = (k : Int) := by omega
      have hc := HCELL.out k (by omega)
      obtain ⟨X, hX⟩ : ∃ X, ws.getD k 0 = X := ⟨_, rfl⟩
      rw [hX] at hc
      have HX := Lib.hid hX
      clear hX hx
      by_cases h0 : X = 0
      · subst h0
        go_wp2_with fail
        go_roundg k
        case measure => omega
        case rel => exact ⟨_, rfl, by omega, by omega, fun q hq => by
                      by_cases e : q = k
                      · subst e; exact HX.out
                      · exact HZ.out q (by omega), rfl⟩
      · have h0' : ¬ (X : Int) = 0 := by omega
        by_cases hge : (L : Int) ≤ ((k : Int) + 1) * 64
        · go_wp2_with fail
          go_ret
          exact ⟨rfl, L, ws, cap, HB.out, by have := HWL.out; omega, hL, HSAME.out, Below.refl _ _⟩
        · go_wp2_with fail
          refine (shrink_any B p L (k + 1) ws cap _ (by push_cast; omega) _ HB.out (by omega) (by omega) (by have := HWL.out; omega) hL hBw).mono ?_
          rintro e w2 ⟨rfl, hb2, hbel⟩
          have HB2 := Lib.hid hb2
          clear hb2
          go_wp2_with fail
          go_ret
          exact ⟨rfl, 64 * (k + 1), ws.take (k + 1), k + 1, HB2.out, by have := HN.out; rw [List.length_take]; omega, by omega, HTAKE.out (k + 1) HZ.out, hbel⟩
end Go.Proofs.Ytbgmkojiklphmaa
