/- Walks of impl.BSCopy and BSCopyFull. -/
import Derived.Test.YtbcbkieebelleaaBsCopy
import Derived.Test.YtbcbkieebelleaaBsPopSl
namespace Go.Proofs.Ytbcbkieebelleaa
set_option linter.unusedVariables false
open Go.RowKit

set_option maxRecDepth 100000 in
set_option maxHeartbeats 4000000 in
theorem bscopyfull_any (v u : Value) (xs ys : List Bool)  (w : World) (hv : IsBits w v xs) (hu : IsBits w u ys) (hn : xs.length ≤ 1000) (hn2 : ys.length ≤ 1000) :
    Calls Try.prog 14 #[v, u] w fun e w' => ∃ v', e = .returned v' ∧ OwnBits w.heap.size w' v' xs ∧ Below w.heap.size w w' := by
  have hv0 := hv
  have hu0 := hu
  obtain ⟨s, rfl, hs⟩ := hv
  obtain ⟨a, n, cap, rfl, _⟩ := hs
  obtain ⟨s2, rfl, hs2⟩ := hu
  obtain ⟨a2, n2, cap2, rfl, _⟩ := hs2
  have hb0 : Below w.heap.size w (((w.alloc (.cells #[.int .u64 (xs.length : Int), .slice a n cap] 25)).alloc (.cells #[.int .u64 (ys.length : Int), .slice a2 n2 cap2] 25)).alloc (.cells #[.int .u64 0, .slice none 0 0] 25)) := (((Below.refl _ _).alloc (Nat.le_refl _) _).alloc (by simp) _).alloc (by simp; omega) _
  have HV := Lib.hid (hv0.below rfl hb0)
  have HU := Lib.hid (hu0.below rfl hb0)
  have HB0 := Lib.hid hb0
  obtain ⟨w0, hw0⟩ : ∃ w0, w0 = (((w.alloc (.cells #[.int .u64 (xs.length : Int), .slice a n cap] 25)).alloc (.cells #[.int .u64 (ys.length : Int), .slice a2 n2 cap2] 25)).alloc (.cells #[.int .u64 0, .slice none 0 0] 25)) := ⟨_, rfl⟩
  have k0 : Blk w0 w.heap.size 25 #[.int .u64 (xs.length : Int), .slice a n cap] := by rw [hw0]; exact (((Blk.new w 25 #[.int .u64 (xs.length : Int), .slice a n cap]).alloc _).alloc _)
  have k1 : Blk w0 (w.heap.size + 1) 25 #[.int .u64 (ys.length : Int), .slice a2 n2 cap2] := by
    have := Blk.new (w.alloc (.cells #[.int .u64 (xs.length : Int), .slice a n cap] 25)) 25 #[.int .u64 (ys.length : Int), .slice a2 n2 cap2]
    rw [World.size_alloc] at this
    rw [hw0]; exact this.alloc _
  have k2 : Blk w0 (w.heap.size + 2) 25 #[.int .u64 0, .slice none 0 0] := by
    have := Blk.new ((w.alloc (.cells #[.int .u64 (xs.length : Int), .slice a n cap] 25)).alloc (.cells #[.int .u64 (ys.length : Int), .slice a2 n2 cap2] 25)) 25 #[.int .u64 0, .slice none 0 0]
    simp only [World.size_alloc] at this
    rw [hw0]; exact this
  have hz0 : w.heap.size + 2 < w0.heap.size := by rw [hw0]; simp
  rw [← hw0] at HV HU HB0
  clear hb0 hv0 hu0
  have HV0 := Lib.hid HV.out
  have HU0 := Lib.hid HU.out
  have x00 : w0.cell? ⟨w.heap.size, 0, none⟩ = some (.int .u64 (xs.length : Int)) := k0.cell 0 rfl
  have x01 : w0.cell? ⟨w.heap.size, 1, none⟩ = some (.slice a n cap) := k0.cell 1 rfl
  have x02 : w0.cell? ⟨w.heap.size + 1, 0, none⟩ = some (.int .u64 (ys.length : Int)) := k1.cell 0 rfl
  have x03 : w0.cell? ⟨w.heap.size + 1, 1, none⟩ = some (.slice a2 n2 cap2) := k1.cell 1 rfl
  have K2 := Lib.hid k2
  clear k0 k1 k2
  go_enter Try.func14, Try.ntmps14
  go_wp2_with fail
  rw [← hw0]
  clear hw0
  refine (set64_any _ ys _ HU0.out (by omega)).mono ?_
  rintro e w1 ⟨p1, ws1, rfl, hbs1, hwl1, hbit1, hb1⟩
  rw [← hwl1] at hbs1
  have HB1 := Lib.hid hbs1
  have HWL1 := Lib.hid hwl1
  have HBIT1 := Lib.hid hbit1
  clear hbs1 hwl1 hbit1
  have hz1 : w.heap.size + 2 < w1.heap.size := (by have := hb1.size; simp at *; omega); have x10 : w1.cell? ⟨w.heap.size, 0, none⟩ = some (.int .u64 (xs.length : Int)) := (hb1.cell (p := ⟨w.heap.size, 0, none⟩) (by simp; omega)).trans x00; have x11 : w1.cell? ⟨w.heap.size, 1, none⟩ = some (.slice a n cap) := (hb1.cell (p := ⟨w.heap.size, 1, none⟩) (by simp; omega)).trans x01; have x12 : w1.cell? ⟨w.heap.size + 1, 0, none⟩ = some (.int .u64 (ys.length : Int)) := (hb1.cell (p := ⟨w.heap.size + 1, 0, none⟩) (by simp; omega)).trans x02; have x13 : w1.cell? ⟨w.heap.size + 1, 1, none⟩ = some (.slice a2 n2 cap2) := (hb1.cell (p := ⟨w.heap.size + 1, 1, none⟩) (by simp; omega)).trans x03
  go_wp2_with fail
  refine (set64_any _ xs _ (HV0.out.below rfl hb1) (by omega)).mono ?_
  rintro e w2 ⟨p2, ws2, rfl, hbs2, hwl2, hbit2, hb2⟩
  rw [← hwl2] at hbs2
  have HB2 := Lib.hid hbs2
  have HWL2 := Lib.hid hwl2
  have HBIT2 := Lib.hid hbit2
  clear hbs2 hwl2 hbit2
  have hz2 : w.heap.size + 2 < w2.heap.size := (by have := hb2.size; simp at *; omega); have x20 : w2.cell? ⟨w.heap.size, 0, none⟩ = some (.int .u64 (xs.length : Int)) := (hb2.cell (p := ⟨w.heap.size, 0, none⟩) (by simp; omega)).trans x10; have x21 : w2.cell? ⟨w.heap.size, 1, none⟩ = some (.slice a n cap) := (hb2.cell (p := ⟨w.heap.size, 1, none⟩) (by simp; omega)).trans x11; have x22 : w2.cell? ⟨w.heap.size + 1, 0, none⟩ = some (.int .u64 (ys.length : Int)) := (hb2.cell (p := ⟨w.heap.size + 1, 0, none⟩) (by simp; omega)).trans x12; have x23 : w2.cell? ⟨w.heap.size + 1, 1, none⟩ = some (.slice a2 n2 cap2) := (hb2.cell (p := ⟨w.heap.size + 1, 1, none⟩) (by simp; omega)).trans x13
  have HUN : Hid (Under w1.heap.size p1 w2) := by
    obtain ⟨g, _, e1, _, _, _, e2, e3⟩ := HB1.out.sl
    refine ⟨e3, fun q n c hq => ?_⟩
    rw [(hb2.cell (p := ⟨p1, 1, none⟩) e3).trans e1] at hq
    simp only [Option.some.injEq, Value.slice.injEq] at hq
    rw [← hq.1]
    exact e2
  go_wp2_with fail
  refine (full_any w0.heap.size w1.heap.size p1 p2 _ _ ws1 ws2 _ _ (HB1.out.below hb2) HB2.out (by rw [HWL2.out]; omega) (by omega) (by have := hb1.size; have := hb2.size; omega) HUN.out).mono ?_
  rintro e w3 ⟨rfl, cap3, hbs3, hb3⟩
  have HB3 := Lib.hid hbs3
  clear hbs3
  have hz3 : w.heap.size + 2 < w3.heap.size := (by have := hb3.size; simp at *; omega); have x30 : w3.cell? ⟨w.heap.size, 0, none⟩ = some (.int .u64 (xs.length : Int)) := (hb3.cell (p := ⟨w.heap.size, 0, none⟩) (by simp; omega)).trans x20; have x31 : w3.cell? ⟨w.heap.size, 1, none⟩ = some (.slice a n cap) := (hb3.cell (p := ⟨w.heap.size, 1, none⟩) (by simp; omega)).trans x21; have x32 : w3.cell? ⟨w.heap.size + 1, 0, none⟩ = some (.int .u64 (ys.length : Int)) := (hb3.cell (p := ⟨w.heap.size + 1, 0, none⟩) (by simp; omega)).trans x22; have x33 : w3.cell? ⟨w.heap.size + 1, 1, none⟩ = some (.slice a2 n2 cap2) := (hb3.cell (p := ⟨w.heap.size + 1, 1, none⟩) (by simp; omega)).trans x23
  go_wp2_with fail
  refine (said64_any _ p1 xs.length ws2 cap3 _ HB3.out (by rw [HWL2.out]; omega) (by omega)).mono ?_
  rintro e w4 ⟨v', rfl, hob, hb4⟩
  have HOB := Lib.hid hob
  obtain ⟨p', m', c', rfl, _⟩ := hob
  have hz4 : w.heap.size + 2 < w4.heap.size := (by have := hb4.size; simp at *; omega); have x40 : w4.cell? ⟨w.heap.size, 0, none⟩ = some (.int .u64 (xs.length : Int)) := (hb4.cell (p := ⟨w.heap.size, 0, none⟩) (by simp; omega)).trans x30; have x41 : w4.cell? ⟨w.heap.size, 1, none⟩ = some (.slice a n cap) := (hb4.cell (p := ⟨w.heap.size, 1, none⟩) (by simp; omega)).trans x31; have x42 : w4.cell? ⟨w.heap.size + 1, 0, none⟩ = some (.int .u64 (ys.length : Int)) := (hb4.cell (p := ⟨w.heap.size + 1, 0, none⟩) (by simp; omega)).trans x32; have x43 : w4.cell? ⟨w.heap.size + 1, 1, none⟩ = some (.slice a2 n2 cap2) := (hb4.cell (p := ⟨w.heap.size + 1, 1, none⟩) (by simp; omega)).trans x33
  have bk := (((K2.out.below hb1 (by omega)).below hb2 (by omega)).below hb3 (by omega)).below hb4 (by omega)
  have q0 : w4.cell? ⟨w.heap.size + 2, 0, none⟩ = some (.int .u64 0) := bk.cell 0 rfl
  have q1 : w4.cell? ⟨w.heap.size + 2, 1, none⟩ = some (.slice none 0 0) := bk.cell 1 rfl
  have y0 := bk.free 0
  have y1 := bk.free 1
  clear bk
  go_wp2_with fail
  refine bodyPost_ret (v := .agg #[.int .u64 ((Bsm.bitsOf ws2 xs.length).length : Int), .slice p' m' c']) (by simp [results, Try.results14, go_sem, *]) rfl ?_
  have eb : Bsm.bitsOf ws2 xs.length = xs := eq_bits _ _ _ rfl fun j _ => HBIT2.out j
  refine ⟨_, rfl, ?_, (((HB0.out).trans ((hb1.mono (by omega)).trans ((hb2.mono (by omega)).trans ((hb3.mono (by omega)).trans (hb4.mono (by omega)))))).setCell (by simp; omega) _).setCell (by simp; omega) _⟩
  have hfin := ((HOB.out.set (a := ⟨w.heap.size + 2, 0, none⟩) (by simp; omega) (.int .u64 ((Bsm.bitsOf ws2 xs.length).length : Int))).set (a := ⟨w.heap.size + 2, 1, none⟩) (by simp; omega) (.slice p' m' c')).weaken (B' := w.heap.size) (by omega)
  rw [eb] at hfin ⊢
  exact hfin

set_option maxRecDepth 100000 in
set_option maxHeartbeats 4000000 in
theorem bscopy_any (v u : Value) (xs ys : List Bool)  (w : World) (hv : IsBits w v xs) (hu : IsBits w u ys) (hn : xs.length ≤ 1000) (hn2 : ys.length ≤ 1000) (hok : ys.length ≤ xs.length ∨ (ys.length % 64 = 0 ∧ xs.length % 64 = 0)) :
    Calls Try.prog 15 #[v, u] w fun e w' => ∃ v', e = .returned (.tuple #[v', .int .u64 ((min xs.length ys.length : Nat) : Int)]) ∧ OwnBits w.heap.size w' v' (xs.take (min xs.length ys.length) ++ ys.drop (min xs.length ys.length)) ∧ Below w.heap.size w w' := by
  have hv0 := hv
  have hu0 := hu
  obtain ⟨s, rfl, hs⟩ := hv
  obtain ⟨a, n, cap, rfl, _⟩ := hs
  obtain ⟨s2, rfl, hs2⟩ := hu
  obtain ⟨a2, n2, cap2, rfl, _⟩ := hs2
  have hb0 : Below w.heap.size w (((w.alloc (.cells #[.int .u64 (xs.length : Int), .slice a n cap] 25)).alloc (.cells #[.int .u64 (ys.length : Int), .slice a2 n2 cap2] 25)).alloc (.cells #[.int .u64 0, .slice none 0 0] 25)) := (((Below.refl _ _).alloc (Nat.le_refl _) _).alloc (by simp) _).alloc (by simp; omega) _
  have HV := Lib.hid (hv0.below rfl hb0)
  have HU := Lib.hid (hu0.below rfl hb0)
  have HB0 := Lib.hid hb0
  obtain ⟨w0, hw0⟩ : ∃ w0, w0 = (((w.alloc (.cells #[.int .u64 (xs.length : Int), .slice a n cap] 25)).alloc (.cells #[.int .u64 (ys.length : Int), .slice a2 n2 cap2] 25)).alloc (.cells #[.int .u64 0, .slice none 0 0] 25)) := ⟨_, rfl⟩
  have k0 : Blk w0 w.heap.size 25 #[.int .u64 (xs.length : Int), .slice a n cap] := by rw [hw0]; exact (((Blk.new w 25 #[.int .u64 (xs.length : Int), .slice a n cap]).alloc _).alloc _)
  have k1 : Blk w0 (w.heap.size + 1) 25 #[.int .u64 (ys.length : Int), .slice a2 n2 cap2] := by
    have := Blk.new (w.alloc (.cells #[.int .u64 (xs.length : Int), .slice a n cap] 25)) 25 #[.int .u64 (ys.length : Int), .slice a2 n2 cap2]
    rw [World.size_alloc] at this
    rw [hw0]; exact this.alloc _
  have k2 : Blk w0 (w.heap.size + 2) 25 #[.int .u64 0, .slice none 0 0] := by
    have := Blk.new ((w.alloc (.cells #[.int .u64 (xs.length : Int), .slice a n cap] 25)).alloc (.cells #[.int .u64 (ys.length : Int), .slice a2 n2 cap2] 25)) 25 #[.int .u64 0, .slice none 0 0]
    simp only [World.size_alloc] at this
    rw [hw0]; exact this
  have hz0 : w.heap.size + 2 < w0.heap.size := by rw [hw0]; simp
  rw [← hw0] at HV HU HB0
  clear hb0 hv0 hu0
  have HV0 := Lib.hid HV.out
  have HU0 := Lib.hid HU.out
  have x00 : w0.cell? ⟨w.heap.size, 0, none⟩ = some (.int .u64 (xs.length : Int)) := k0.cell 0 rfl
  have x01 : w0.cell? ⟨w.heap.size, 1, none⟩ = some (.slice a n cap) := k0.cell 1 rfl
  have x02 : w0.cell? ⟨w.heap.size + 1, 0, none⟩ = some (.int .u64 (ys.length : Int)) := k1.cell 0 rfl
  have x03 : w0.cell? ⟨w.heap.size + 1, 1, none⟩ = some (.slice a2 n2 cap2) := k1.cell 1 rfl
  have K2 := Lib.hid k2
  clear k0 k1 k2
  go_enter Try.func15, Try.ntmps15
  go_wp2_with fail
  rw [← hw0]
  clear hw0
  refine (set64_any _ ys _ HU0.out (by omega)).mono ?_
  rintro e w1 ⟨p1, ws1, rfl, hbs1, hwl1, hbit1, hb1⟩
  rw [← hwl1] at hbs1
  have HB1 := Lib.hid hbs1
  have HWL1 := Lib.hid hwl1
  have HBIT1 := Lib.hid hbit1
  clear hbs1 hwl1 hbit1
  have hz1 : w.heap.size + 2 < w1.heap.size := (by have := hb1.size; simp at *; omega); have x10 : w1.cell? ⟨w.heap.size, 0, none⟩ = some (.int .u64 (xs.length : Int)) := (hb1.cell (p := ⟨w.heap.size, 0, none⟩) (by simp; omega)).trans x00; have x11 : w1.cell? ⟨w.heap.size, 1, none⟩ = some (.slice a n cap) := (hb1.cell (p := ⟨w.heap.size, 1, none⟩) (by simp; omega)).trans x01; have x12 : w1.cell? ⟨w.heap.size + 1, 0, none⟩ = some (.int .u64 (ys.length : Int)) := (hb1.cell (p := ⟨w.heap.size + 1, 0, none⟩) (by simp; omega)).trans x02; have x13 : w1.cell? ⟨w.heap.size + 1, 1, none⟩ = some (.slice a2 n2 cap2) := (hb1.cell (p := ⟨w.heap.size + 1, 1, none⟩) (by simp; omega)).trans x03
  go_wp2_with fail
  refine (set64_any _ xs _ (HV0.out.below rfl hb1) (by omega)).mono ?_
  rintro e w2 ⟨p2, ws2, rfl, hbs2, hwl2, hbit2, hb2⟩
  rw [← hwl2] at hbs2
  have HB2 := Lib.hid hbs2
  have HWL2 := Lib.hid hwl2
  have HBIT2 := Lib.hid hbit2
  clear hbs2 hwl2 hbit2
  have hz2 : w.heap.size + 2 < w2.heap.size := (by have := hb2.size; simp at *; omega); have x20 : w2.cell? ⟨w.heap.size, 0, none⟩ = some (.int .u64 (xs.length : Int)) := (hb2.cell (p := ⟨w.heap.size, 0, none⟩) (by simp; omega)).trans x10; have x21 : w2.cell? ⟨w.heap.size, 1, none⟩ = some (.slice a n cap) := (hb2.cell (p := ⟨w.heap.size, 1, none⟩) (by simp; omega)).trans x11; have x22 : w2.cell? ⟨w.heap.size + 1, 0, none⟩ = some (.int .u64 (ys.length : Int)) := (hb2.cell (p := ⟨w.heap.size + 1, 0, none⟩) (by simp; omega)).trans x12; have x23 : w2.cell? ⟨w.heap.size + 1, 1, none⟩ = some (.slice a2 n2 cap2) := (hb2.cell (p := ⟨w.heap.size + 1, 1, none⟩) (by simp; omega)).trans x13
  have HUN : Hid (Under w1.heap.size p1 w2) := by
    obtain ⟨g, _, e1, _, _, _, e2, e3⟩ := HB1.out.sl
    refine ⟨e3, fun q n c hq => ?_⟩
    rw [(hb2.cell (p := ⟨p1, 1, none⟩) e3).trans e1] at hq
    simp only [Option.some.injEq, Value.slice.injEq] at hq
    rw [← hq.1]
    exact e2
  go_wp2_with fail
  refine (copy_any w0.heap.size w1.heap.size p1 p2 _ _ ws1 ws2 _ _ _ (HB1.out.below hb2) HB2.out HWL1.out HWL2.out (by omega) (by omega) HUN.out hok).mono ?_
  rintro e w3 ⟨rfl, ws3, hbs3, hl3, hbit3, hb3⟩
  have HB3 := Lib.hid hbs3
  have HL3 := Lib.hid hl3
  have HBIT3 := Lib.hid hbit3
  clear hbs3 hl3 hbit3
  have hz3 : w.heap.size + 2 < w3.heap.size := (by have := hb3.size; simp at *; omega); have x30 : w3.cell? ⟨w.heap.size, 0, none⟩ = some (.int .u64 (xs.length : Int)) := (hb3.cell (p := ⟨w.heap.size, 0, none⟩) (by simp; omega)).trans x20; have x31 : w3.cell? ⟨w.heap.size, 1, none⟩ = some (.slice a n cap) := (hb3.cell (p := ⟨w.heap.size, 1, none⟩) (by simp; omega)).trans x21; have x32 : w3.cell? ⟨w.heap.size + 1, 0, none⟩ = some (.int .u64 (ys.length : Int)) := (hb3.cell (p := ⟨w.heap.size + 1, 0, none⟩) (by simp; omega)).trans x22; have x33 : w3.cell? ⟨w.heap.size + 1, 1, none⟩ = some (.slice a2 n2 cap2) := (hb3.cell (p := ⟨w.heap.size + 1, 1, none⟩) (by simp; omega)).trans x23
  go_wp2_with fail
  refine (said64_any _ p1 ys.length ws3 _ _ HB3.out (by rw [HL3.out, HWL1.out]; omega) (by omega)).mono ?_
  rintro e w4 ⟨v', rfl, hob, hb4⟩
  have HOB := Lib.hid hob
  obtain ⟨p', m', c', rfl, _⟩ := hob
  have hz4 : w.heap.size + 2 < w4.heap.size := (by have := hb4.size; simp at *; omega); have x40 : w4.cell? ⟨w.heap.size, 0, none⟩ = some (.int .u64 (xs.length : Int)) := (hb4.cell (p := ⟨w.heap.size, 0, none⟩) (by simp; omega)).trans x30; have x41 : w4.cell? ⟨w.heap.size, 1, none⟩ = some (.slice a n cap) := (hb4.cell (p := ⟨w.heap.size, 1, none⟩) (by simp; omega)).trans x31; have x42 : w4.cell? ⟨w.heap.size + 1, 0, none⟩ = some (.int .u64 (ys.length : Int)) := (hb4.cell (p := ⟨w.heap.size + 1, 0, none⟩) (by simp; omega)).trans x32; have x43 : w4.cell? ⟨w.heap.size + 1, 1, none⟩ = some (.slice a2 n2 cap2) := (hb4.cell (p := ⟨w.heap.size + 1, 1, none⟩) (by simp; omega)).trans x33
  have bk := (((K2.out.below hb1 (by omega)).below hb2 (by omega)).below hb3 (by omega)).below hb4 (by omega)
  have q0 : w4.cell? ⟨w.heap.size + 2, 0, none⟩ = some (.int .u64 0) := bk.cell 0 rfl
  have q1 : w4.cell? ⟨w.heap.size + 2, 1, none⟩ = some (.slice none 0 0) := bk.cell 1 rfl
  have y0 := bk.free 0
  have y1 := bk.free 1
  clear bk
  go_wp2_with fail
  refine bodyPost_ret (v := .tuple #[.agg #[.int .u64 ((Bsm.bitsOf ws3 ys.length).length : Int), .slice p' m' c'], .int .u64 ((min xs.length ys.length : Nat) : Int)]) (by simp [results, Try.results15, go_sem, *]) rfl ?_
  have eb : Bsm.bitsOf ws3 ys.length = xs.take (min xs.length ys.length) ++ ys.drop (min xs.length ys.length) := by
    apply eq_bits
    · rw [List.length_append, List.length_take, List.length_drop]; omega
    · intro j hj
      rw [HBIT3.out j hj, HBIT1.out, HBIT2.out]
      have hl : (xs.take (min xs.length ys.length)).length = min xs.length ys.length := by rw [List.length_take]; omega
      simp only [List.getD_eq_getElem?_getD]
      by_cases h : j < xs.length
      · rw [if_pos h, List.getElem?_append_left (by omega), List.getElem?_take, if_pos (by omega)]
      · rw [if_neg h, List.getElem?_append_right (by omega), hl, List.getElem?_drop]
        congr 2
        omega
  refine ⟨_, rfl, ?_, (((HB0.out).trans ((hb1.mono (by omega)).trans ((hb2.mono (by omega)).trans ((hb3.mono (by omega)).trans (hb4.mono (by omega)))))).setCell (by simp; omega) _).setCell (by simp; omega) _⟩
  have hfin := ((HOB.out.set (a := ⟨w.heap.size + 2, 0, none⟩) (by simp; omega) (.int .u64 ((Bsm.bitsOf ws3 ys.length).length : Int))).set (a := ⟨w.heap.size + 2, 1, none⟩) (by simp; omega) (.slice p' m' c')).weaken (B' := w.heap.size) (by omega)
  rw [eb] at hfin ⊢
  exact hfin
end Go.Proofs.Ytbcbkieebelleaa
