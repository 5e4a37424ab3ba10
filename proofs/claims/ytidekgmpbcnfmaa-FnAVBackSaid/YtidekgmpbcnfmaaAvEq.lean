/- slices.Equal of equal lists of entries, and of truth values; laws.avSame of equal answers. -/
import Derived.Test.YtidekgmpbcnfmaaAvAll
import Derived.BigQuiet
import Derived.Deep.QuietTactic
namespace Go.Proofs.Ytidekgmpbcnfmaa
set_option linter.unusedVariables false
open Go.RowKit Avm

def EqLoop (n : Nat) (w : World) (k : Nat) (idx : Value) (wr : World) : Prop := ∃ (j : Nat), idx = .int .i64 (j : Int) ∧ j + k = n ∧ Below w.heap.size w wr

set_option maxRecDepth 100000 in
set_option maxHeartbeats 2000000 in
theorem eqent_same (v1 v2 : Value) (l : Lst) (w : World) (h1 : Rw 2 w v1 (aes l)) (h2 : Rw 2 w v2 (aes l)) (hn : l.length ≤ 100000) :
    Calls Try.prog 9 #[v1, v2] w fun e w' => e = .returned (.bool true) ∧ Below w.heap.size w w' := by
  obtain ⟨a, n, cap, rfl, hl, hc, hm, hr⟩ := h1
  obtain ⟨a2, n2, cap2, rfl, hl2, hc2, hm2, hr2⟩ := h2
  rw [aes_len] at hl hl2
  obtain rfl : n2 = n := by omega
  have HR := Lib.hid hr
  have HR2 := Lib.hid hr2
  have HN := Lib.hid hl
  rw [hl] at hn
  clear hl hl2 hr hr2 hc hm hc2 hm2
  go_enter Try.func9, Try.ntmps9
  go_wp2_with fail
  go_loopg [5, 13] n2 (fun k s5 idx wr => EqLoop n2 w k idx wr)
  case atStart => exact ⟨0, rfl, by omega, Below.refl _ _⟩
  case round =>
    obtain ⟨j, rfl, hjk, hbel⟩ := hrel
    have HB := Lib.hid hbel
    by_cases hj : j < n2
    · obtain ⟨b, off, rfl, hcell⟩ := HR.out (by omega)
      obtain ⟨b2, off2, rfl, hcell2⟩ := HR2.out (by omega)
      have ha := aes_at l j (by rw [HN.out]; exact hj)
      have e0 := hcell j _ ha 0 _ rfl
      have e1 := hcell j _ ha 1 _ rfl
      have g0 := hcell2 j _ ha 0 _ rfl
      have g1 := hcell2 j _ ha 1 _ rfl
      rw [← hbel.cell (World.block_lt_of_cell? w _ e0)] at e0
      rw [← hbel.cell (World.block_lt_of_cell? w _ e1)] at e1
      rw [← hbel.cell (World.block_lt_of_cell? w _ g0)] at g0
      rw [← hbel.cell (World.block_lt_of_cell? w _ g1)] at g1
      obtain ⟨k0, hk0⟩ : ∃ x, (l.getD j (0, 0)).1 = x := ⟨_, rfl⟩
      obtain ⟨v0, hv0⟩ : ∃ x, (l.getD j (0, 0)).2 = x := ⟨_, rfl⟩
      rw [hk0] at e0 g0
      rw [hv0] at e1 g1
      have e0' : wr.cell? ⟨b, off + j * 2, none⟩ = some (.int .i64 k0) := by simpa using e0
      have e1' : wr.cell? ⟨b, off + j * 2 + 1, none⟩ = some (.int .i64 v0) := by rw [Nat.add_assoc]; exact e1
      have g0' : wr.cell? ⟨b2, off2 + j * 2, none⟩ = some (.int .i64 k0) := by simpa using g0
      have g1' : wr.cell? ⟨b2, off2 + j * 2 + 1, none⟩ = some (.int .i64 v0) := by rw [Nat.add_assoc]; exact g1
      have i1 : (j : Int) < (n2 : Int) := by omega
      have i2 : (0 : Int) ≤ (j : Int) := by omega
      clear hcell hcell2 ha e0 e1 g0 g1 hk0 hv0 hbel
      cases gk with
      | zero => omega
      | succ k =>
        go_wp2_with fail
        go_quiet (fail)
        go_wp2_with fail
        go_roundg k
        case measure => omega
        case rel => exact ⟨j + 1, by go_num, by omega, HB.out.trans (below_drewN (Below.refl _ _) _)⟩
    · obtain rfl : j = n2 := by omega
      clear hbel
      go_wp2_with fail
      go_ret
      exact ⟨rfl, HB.out⟩

set_option maxRecDepth 100000 in
set_option maxHeartbeats 2000000 in
theorem eqbool_same (v1 v2 : Value) (l : List Bool) (w : World) (h1 : Sl w v1 (bvs l)) (h2 : Sl w v2 (bvs l)) (hn : l.length ≤ 100000) :
    Calls Try.prog 15 #[v1, v2] w fun e w' => e = .returned (.bool true) ∧ Below w.heap.size w w' := by
  obtain ⟨a, n, cap, rfl, hl, hc, hm, hr⟩ := h1
  obtain ⟨a2, n2, cap2, rfl, hl2, hc2, hm2, hr2⟩ := h2
  rw [bvs, List.length_map] at hl hl2
  obtain rfl : n2 = n := by omega
  have HR := Lib.hid hr
  have HR2 := Lib.hid hr2
  have HN := Lib.hid hl
  rw [hl] at hn
  clear hl hl2 hr hr2 hc hm hc2 hm2
  go_enter Try.func15, Try.ntmps15
  go_wp2_with fail
  go_loopg [5, 13] n2 (fun k s5 idx wr => EqLoop n2 w k idx wr)
  case atStart => exact ⟨0, rfl, by omega, Below.refl _ _⟩
  case round =>
    obtain ⟨j, rfl, hjk, hbel⟩ := hrel
    have HB := Lib.hid hbel
    by_cases hj : j < n2
    · obtain ⟨b, off, rfl, hcell⟩ := HR.out (by omega)
      obtain ⟨b2, off2, rfl, hcell2⟩ := HR2.out (by omega)
      have ha : (bvs l)[j]? = some (.bool (l.getD j false)) := by simp [bvs, List.getD_eq_getElem?_getD, HN.out, hj]
      have e0 := hcell j _ ha
      have g0 := hcell2 j _ ha
      rw [← hbel.cell (World.block_lt_of_cell? w _ e0)] at e0
      rw [← hbel.cell (World.block_lt_of_cell? w _ g0)] at g0
      obtain ⟨k0, hk0⟩ : ∃ x, l.getD j false = x := ⟨_, rfl⟩
      rw [hk0] at e0 g0
      have i1 : (j : Int) < (n2 : Int) := by omega
      have i2 : (0 : Int) ≤ (j : Int) := by omega
      clear hcell hcell2 ha hk0 hbel
      cases gk with
      | zero => omega
      | succ k =>
        go_wp2_with fail
        go_quiet (fail)
        go_wp2_with fail
        go_roundg k
        case measure => omega
        case rel => exact ⟨j + 1, by go_num, by omega, HB.out.trans (below_drewN (Below.refl _ _) _)⟩
    · obtain rfl : j = n2 := by omega
      clear hbel
      go_wp2_with fail
      go_ret
      exact ⟨rfl, HB.out⟩

set_option maxRecDepth 100000 in
set_option maxHeartbeats 2000000 in
theorem avsame_same (L : Int) (p1 p2 r1 r2 : Option Addr) (m1 c1 m2 c2 k1 d1 k2 d2 : Nat) (l : Lst) (bs : List Bool) (w : World) (h1 : Rw 2 w (.slice p1 m1 c1) (aes l)) (h2 : Rw 2 w (.slice r1 k1 d1) (aes l)) (h3 : Sl w (.slice p2 m2 c2) (bvs bs)) (h4 : Sl w (.slice r2 k2 d2) (bvs bs)) (hn : l.length ≤ 100000) (hn2 : bs.length ≤ 100000) :
    Calls Try.prog 10 #[.agg #[.int .i64 L, .slice p1 m1 c1, .slice p2 m2 c2], .agg #[.int .i64 L, .slice r1 k1 d1, .slice r2 k2 d2]] w fun e w' => e = .returned (.bool true) ∧ Below w.heap.size w w' := by
  have H1 := Lib.hid h1
  have H2 := Lib.hid h2
  have H3 := Lib.hid h3
  have H4 := Lib.hid h4
  clear h1 h2 h3 h4
  go_enter Try.func10, Try.ntmps10
  go_wp2_with fail
  have hal : Below w.heap.size w ((w.alloc (.cells #[.int .i64 L, .slice p1 m1 c1, .slice p2 m2 c2] 36)).alloc (.cells #[.int .i64 L, .slice r1 k1 d1, .slice r2 k2 d2] 36)) := ((Below.refl _ _).alloc (Nat.le_refl _) _).alloc (by simp) _
  have ka := (Blk.new w 36 #[.int .i64 L, .slice p1 m1 c1, .slice p2 m2 c2]).alloc (.cells #[.int .i64 L, .slice r1 k1 d1, .slice r2 k2 d2] 36)
  have kb := Blk.new (w.alloc (.cells #[.int .i64 L, .slice p1 m1 c1, .slice p2 m2 c2] 36)) 36 #[.int .i64 L, .slice r1 k1 d1, .slice r2 k2 d2]
  rw [World.size_alloc] at kb
  refine (eqbool_same _ _ bs _ (H3.out.below rfl hal) (H4.out.below rfl hal) hn2).mono ?_
  rintro e w2 ⟨rfl, hb2⟩
  have x1 : w2.cell? ⟨w.heap.size, 1, none⟩ = some (.slice p1 m1 c1) := ((ka.cell 1 rfl) ▸ hb2.cell ka.lt)
  have y1 : w2.cell? ⟨w.heap.size + 1, 1, none⟩ = some (.slice r1 k1 d1) := ((kb.cell 1 rfl) ▸ hb2.cell kb.lt)
  have HW2 := Lib.hid (hal.trans (hb2.mono (by simp; omega)))
  clear hal ka kb hb2
  go_wp2_with fail
  refine (eqent_same _ _ l _ (H1.out.below rfl HW2.out) (H2.out.below rfl HW2.out) hn).mono ?_
  rintro e w3 ⟨rfl, hb3⟩
  have HW3 := Lib.hid (HW2.out.trans (hb3.mono HW2.out.size))
  clear hb3
  go_wp2_with fail
  go_ret
  exact ⟨rfl, HW3.out⟩
end Go.Proofs.Ytidekgmpbcnfmaa
