/- Walks of impl.BLMerge and of the law FnBLMerge: it returns true at every input. -/
import Derived.Test.YtbcbkieebelleaaBlMerge
import Derived.Deep.DeepFit
import Derived.Test.YtbcbkieebelleaaBlOpen
namespace Go.Proofs.Ytbcbkieebelleaa
set_option linter.unusedVariables false
open Go.RowKit

def BlMergeIs (m k : Nat) (ws ws2 : List Nat) (w : World) (e : Ending) (w' : World) : Prop :=
  ∃ (v' : Value) (ws' : List Nat), e = .returned (.tuple #[v', .bool true]) ∧ OwnFil w.heap.size w' v' m k ws' ∧ ws'.length = ws.length ∧ (∀ j, Bsm.bit ws' j = (Bsm.bit ws j || Bsm.bit ws2 j)) ∧ Below w.heap.size w w'

set_option maxRecDepth 100000 in
set_option maxHeartbeats 4000000 in
theorem blmerge_any (v u : Value) (m k : Nat) (ws ws2 : List Nat) (w : World) (hv : Fil w v m k ws) (hu : Fil w u m k ws2) (h0 : 0 < ws.length) (h9 : ws.length ≤ 100) (hl : ws2.length = ws.length) :
    Calls Try.prog 22 #[v, u] w (BlMergeIs m k ws ws2 w) := by
  obtain ⟨a, n, cap, rfl, hsl, hx⟩ := hv
  obtain ⟨a2, n2, cap2, rfl, hsl2, hx2⟩ := hu
  have hv : Fil w (.agg #[.int .u64 (m : Int), .int .u64 (k : Int), .slice a n cap]) m k ws := ⟨a, n, cap, rfl, hsl, hx⟩
  have hu : Fil w (.agg #[.int .u64 (m : Int), .int .u64 (k : Int), .slice a2 n2 cap2]) m k ws2 := ⟨a2, n2, cap2, rfl, hsl2, hx2⟩
  obtain ⟨W3, hW3⟩ : ∃ W3, W3 = ((w.alloc (.cells #[.int .u64 (m : Int), .int .u64 (k : Int), .slice a n cap] 39)).alloc (.cells #[.int .u64 (m : Int), .int .u64 (k : Int), .slice a2 n2 cap2] 39)).alloc (.cells #[.int .u64 0, .int .u64 0, .slice none 0 0] 39) := ⟨_, rfl⟩
  have hb0 : Below w.heap.size w W3 := by rw [hW3]; exact (((Below.refl _ _).alloc (Nat.le_refl _) _).alloc (by simp) _).alloc (by simp; omega) _
  have hz : W3.heap.size = w.heap.size + 3 := by rw [hW3]; simp
  have k2 : Blk W3 (w.heap.size + 2) 39 #[.int .u64 0, .int .u64 0, .slice none 0 0] := by
    have h := Blk.new ((w.alloc (.cells #[.int .u64 (m : Int), .int .u64 (k : Int), .slice a n cap] 39)).alloc (.cells #[.int .u64 (m : Int), .int .u64 (k : Int), .slice a2 n2 cap2] 39)) 39 #[.int .u64 0, .int .u64 0, .slice none 0 0]
    rw [← hW3] at h
    simpa using h
  have k1 : Blk W3 (w.heap.size + 1) 39 #[.int .u64 (m : Int), .int .u64 (k : Int), .slice a2 n2 cap2] := by
    have h := (Blk.new (w.alloc (.cells #[.int .u64 (m : Int), .int .u64 (k : Int), .slice a n cap] 39)) 39 #[.int .u64 (m : Int), .int .u64 (k : Int), .slice a2 n2 cap2]).alloc (.cells #[.int .u64 0, .int .u64 0, .slice none 0 0] 39)
    rw [← hW3] at h
    simpa using h
  have HV := Lib.hid (hv.below rfl hb0)
  have HU := Lib.hid (hu.below rfl hb0)
  have HB0 := Lib.hid hb0
  have HZ := Lib.hid hz
  have HK2 := Lib.hid k2
  have HK1 := Lib.hid k1
  have HW3 := Lib.hid hW3
  have HL := Lib.hid hl
  clear hsl hsl2 hx hx2 hv hu hb0 hz k2 k1 hW3 hl
  go_enter Try.func22, Try.ntmps22
  go_wp2_with fail
  rw [← HW3.out]
  refine (filter_any _ m k ws _ HV.out h0 (by omega)).mono ?_
  rintro e w1 ⟨f, p, cp, rfl, hbf, hb1⟩
  have hz1 := hb1.size
  have HBF := Lib.hid hbf
  have HU1 := Lib.hid (HU.out.below rfl hb1)
  have hk1 := HK1.out.below hb1 (by have := HZ.out; omega)
  have HK2b := Lib.hid (HK2.out.below hb1 (by have := HZ.out; omega))
  have d0 : w1.cell? ⟨w.heap.size + 1, 0, none⟩ = some (.int .u64 (m : Int)) := hk1.cell 0 rfl
  have d1 : w1.cell? ⟨w.heap.size + 1, 1, none⟩ = some (.int .u64 (k : Int)) := hk1.cell 1 rfl
  have d2 : w1.cell? ⟨w.heap.size + 1, 2, none⟩ = some (.slice a2 n2 cap2) := hk1.cell 2 rfl
  have HB1 := Lib.hid (HB0.out.trans (hb1.mono (by have := HZ.out; omega)))
  have HZ1 : Hid (w.heap.size + 3 ≤ w1.heap.size) := by have := HZ.out; unfold Hid; omega
  have HBP : Hid (W3.heap.size ≤ w1.heap.size) := hz1
  clear hbf hb1 hk1 hz1
  go_wp2_with fail
  refine (filter_any _ m k ws2 _ HU1.out (by rw [HL.out]; exact h0) (by rw [HL.out]; omega)).mono ?_
  rintro e w2 ⟨f2, p2, cp2, rfl, hbf2, hb2⟩
  have HBF2 := Lib.hid hbf2
  have HBFa := Lib.hid (HBF.out.below hb2)
  have HK2c := Lib.hid (HK2b.out.below hb2 (by have := HZ1.out; omega))
  have HB2 := Lib.hid (HB1.out.trans (hb2.mono (by have := HZ1.out; omega)))
  have hz2 := hb2.size
  have HZ2 : Hid (w1.heap.size ≤ w2.heap.size) := hz2
  obtain ⟨g0, q1, q2, q3, q4, q5⟩ := HBF.out.2.2.1.wordsAt
  have q1b := (hb2.cell (p := ⟨p, 1, none⟩) q5).trans q1
  obtain ⟨g2, r1, r2, r3, r4, r5⟩ := HBF2.out.2.2.1.wordsAt
  have HMG := Lib.hid (merge_any W3.heap.size w1.heap.size f f2 p p2 g0 g2 m k (64 * ws.length) (64 * ws2.length) ws.length ws ws2 cp cp2 w2 HBFa.out HBF2.out (by omega) (by rw [HL.out]; omega) (by rw [HL.out]; omega) (by omega) rfl (by rw [HL.out]; omega) HL.out (by have := HBP.out; have := HZ2.out; omega) (fun h => by rw [HL.out] at h; omega) q1b (by rw [r1, HL.out]) (by omega) (by omega) (by omega) (by omega))
  clear hbf2 hb2 d0 d1 d2 hz2 q1 q2 q3 q4 q5 q1b r1 r2 r3 r4 r5
  go_wp2_with fail
  refine HMG.out.mono ?_
  rintro e w3 ⟨rfl, ws', cap', L', j1, j2, j3, j4, j5⟩
  have HJ1 := Lib.hid j1
  have HJ2 := Lib.hid j2
  have HJ3 := Lib.hid j3
  have HK3 := Lib.hid (HK2c.out.below j4 (by have := HZ.out; omega))
  have HB3 := Lib.hid (HB2.out.trans (j4.mono (by have := HZ.out; omega)))
  have HZ3 : Hid (w.heap.size + 3 ≤ w3.heap.size) := by have := HZ1.out; have := HZ2.out; unfold Hid; omega
  clear j1 j2 j3 j4 j5
  go_wp2_with fail
  have HBD := Lib.hid (HJ1.out.below (Below.refl _ _).drew)
  have HKD : Hid (Blk w3.drew (w.heap.size + 2) 39 #[.int .u64 0, .int .u64 0, .slice none 0 0]) := HK3.out
  have HZD : Hid (w.heap.size + 3 ≤ w3.drew.heap.size) := HZ3.out
  have HB3D : Hid (Below w.heap.size w w3.drew) := HB3.out.drew
  go_region_held3 (fun w' => True) (exact trivial)
    ((go_at_call 43; (with_reducible refine Calls.mono (told_any _ f p m k L' ws' cap' w3.drew HBD.out (by rw [HJ2.out]; omega)) ?_); rintro e w4 ⟨v4, rfl, hof, hb4⟩; have HOF := Lib.hid hof; obtain ⟨a4, n4, c4, rfl, _⟩ := hof; have bk := HKD.out.below hb4 (by have := HZD.out; omega); have q0 : w4.cell? ⟨w.heap.size + 2, 0, none⟩ = some (.int .u64 0) := bk.cell 0 rfl; have q1 : w4.cell? ⟨w.heap.size + 2, 1, none⟩ = some (.int .u64 0) := bk.cell 1 rfl; have q2 : w4.cell? ⟨w.heap.size + 2, 2, none⟩ = some (.slice none 0 0) := bk.cell 2 rfl; have y0 := bk.free 0; have y1 := bk.free 1; have y2 := bk.free 2; have HB4 := Lib.hid (HB3D.out.trans (hb4.mono (by have := HZD.out; omega))); have n0 := World.block_lt_of_cell? w4 _ q0; clear bk hb4))
  all_goals
    go_wp2_with fail
    refine bodyPost_ret (v := .tuple #[.agg #[.int .u64 (m : Int), .int .u64 (k : Int), .slice a4 n4 c4], .bool true]) (by simp [results, Try.results22, go_sem, *]) rfl ?_
    have hzd := HZD.out
    exact ⟨_, ws', rfl, (((HOF.out.set (by simp only []; omega) _).set (by simp only []; omega) _).set (by simp only []; omega) _).weaken (by omega), HJ2.out, HJ3.out, ((HB4.out.setCell (by simp only []; omega) _).setCell (by simp only []; omega) _).setCell (by simp only []; omega) _⟩

theorem orr_get (a b : List Bool) (n j : Nat) (hj : j < n) : (orr a b n).getD j false = (a.getD j false || b.getD j false) := by
  unfold orr
  simp [List.getD_eq_getElem?_getD, hj]
set_option maxRecDepth 100000 in
set_option maxHeartbeats 8000000 in
theorem law_blmerge (a b : Int) (v u : Value) (w : World) (ha : (Lit.int .u16 a).wf = true) (hb : (Lit.int .u8 b).wf = true) (hv : AnyU64s w v) (hu : AnyU64s w u) :
    Calls Try.prog 5 #[.int .u16 a, .int .u8 b, v, u] w fun e w' => e = .returned (.bool true) ∧ Below w.heap.size w w' := by
  have hA : 0 ≤ a ∧ a ≤ 65535 := by simp [Lit.wf, IntKind.min, IntKind.max, IntKind.signed, IntKind.bits] at ha; omega
  have hB : 0 ≤ b ∧ b ≤ 255 := by simp [Lit.wf, IntKind.min, IntKind.max, IntKind.signed, IntKind.bits] at hb; omega
  obtain ⟨x, rfl⟩ := Int.eq_ofNat_of_zero_le hA.1
  obtain ⟨y, rfl⟩ := Int.eq_ofNat_of_zero_le hB.1
  have hA2 : x ≤ 65535 := by omega
  have hB2 : y ≤ 255 := by omega
  obtain ⟨xs, hs, hx⟩ := hv
  obtain ⟨ys, hs2, hx2⟩ := hu
  have hs0 := hs
  have hs02 := hs2
  obtain ⟨a1, n1, c1, rfl, _, _, hm1, _⟩ := hs0
  obtain ⟨a2, n2, c2, rfl, _, _, hm2, _⟩ := hs02
  unfold maxLen at hm1 hm2
  have hn1 : (n1 : Int) ≤ 9223372036854775807 := by omega
  have hn2 : (n2 : Int) ≤ 9223372036854775807 := by omega
  have HS := Lib.hid hs
  have HX := Lib.hid hx
  have HS2 := Lib.hid hs2
  have HX2 := Lib.hid hx2
  obtain ⟨m, hm⟩ : ∃ m, 1 + x % 700 = m := ⟨_, rfl⟩
  obtain ⟨k, hk⟩ : ∃ k, 1 + y % 8 = k := ⟨_, rfl⟩
  have hm7 : m ≤ 700 := by omega
  have hm0 : 1 ≤ m := by omega
  have HM := Lib.hid hm
  have HK := Lib.hid hk
  clear hA hB ha hb hs hx hs2 hx2 hm1 hm2 hm hk
  by_cases hf : (2147483647 : Int) < (n1 : Int)
  · go_enter Try.func5, Try.ntmps5
    go_wp2_with fail
    go_ret
    exact ⟨rfl, Below.refl _ _⟩
  · have hf1 : decide ((2147483647 : Int) < (n1 : Int)) = false := by simpa using hf
    clear hf
    by_cases hf2 : (2147483647 : Int) < (n2 : Int)
    · go_enter Try.func5, Try.ntmps5
      go_wp2_with fail
      go_ret
      exact ⟨rfl, Below.refl _ _⟩
    · have hf3 : decide ((2147483647 : Int) < (n2 : Int)) = false := by simpa using hf2
      clear hf2
      go_enter Try.func5, Try.ntmps5
      go_wp2_with fail
      refine (blfilter_any x y _ xs _ hA2 hB2 HS.out HX.out).mono ?_
      rintro e w1 ⟨v1, ws, rfl, hof, hl, hb1⟩
      rw [HM.out, HK.out] at hof
      rw [HM.out] at hl
      have HOF := Lib.hid hof
      have HL := Lib.hid hl
      have HB1 := Lib.hid hb1
      obtain ⟨p1, m1, k1, rfl, _⟩ := hof
      have HS2b := Lib.hid (HS2.out.below rfl hb1)
      clear hl hb1
      go_wp2_with fail
      refine (blfilter_any x y _ ys _ hA2 hB2 HS2b.out HX2.out).mono ?_
      rintro e w2 ⟨v2, ws2, rfl, hof2, hl2, hb2⟩
      rw [HM.out, HK.out] at hof2
      rw [HM.out] at hl2
      have HOF2 := Lib.hid hof2
      have HL2 := Lib.hid hl2
      have HB2 := Lib.hid hb2
      obtain ⟨p2, m2, k2, rfl, _⟩ := hof2
      clear hl2 hb2
      obtain ⟨W4, hW4⟩ : ∃ W4, W4 = (w2.alloc (.cells #[.int .u64 (m : Int), .int .u64 (k : Int), .slice p1 m1 k1] 39)).alloc (.cells #[.int .u64 (m : Int), .int .u64 (k : Int), .slice p2 m2 k2] 39) := ⟨_, rfl⟩
      have hb4 : Below w2.heap.size w2 W4 := by rw [hW4]; exact ((Below.refl _ _).alloc (Nat.le_refl _) _).alloc (by simp) _
      have hz4 : W4.heap.size = w2.heap.size + 2 := by rw [hW4]; simp
      have kA : Blk W4 w2.heap.size 39 #[.int .u64 (m : Int), .int .u64 (k : Int), .slice p1 m1 k1] := by
        rw [hW4]; exact (Blk.new w2 _ _).alloc _
      have kB : Blk W4 (w2.heap.size + 1) 39 #[.int .u64 (m : Int), .int .u64 (k : Int), .slice p2 m2 k2] := by
        have h := Blk.new (w2.alloc (.cells #[.int .u64 (m : Int), .int .u64 (k : Int), .slice p1 m1 k1] 39)) 39 #[.int .u64 (m : Int), .int .u64 (k : Int), .slice p2 m2 k2]
        rw [← hW4] at h
        simpa using h
      have HFA := Lib.hid ((HOF.out.is.below rfl HB2.out).below rfl hb4)
      have HFB := Lib.hid (HOF2.out.is.below rfl hb4)
      have HKA := Lib.hid kA
      have HKB := Lib.hid kB
      have HZ4 := Lib.hid hz4
      have HB4 := Lib.hid ((HB1.out.trans (HB2.out.mono HB1.out.size)).trans (hb4.mono (Nat.le_trans HB1.out.size HB2.out.size)))
      have HW4 := Lib.hid hW4
      have HZW : Hid (w.heap.size ≤ w2.heap.size) := Nat.le_trans HB1.out.size HB2.out.size
      clear hb4 hz4 kA kB hW4
      go_wp2_with fail
      rw [← HW4.out]
      refine (blmerge_any _ _ m k ws ws2 _ HFA.out HFB.out (by rw [HL.out]; omega) (by rw [HL.out]; omega) (by rw [HL.out, HL2.out])).mono ?_
      rintro e w5 ⟨v5, ws5, rfl, hof5, hl5, hbit, hb5⟩
      have HOF5 := Lib.hid hof5
      have HL5 := Lib.hid hl5
      have HBIT := Lib.hid hbit
      have HB5 := Lib.hid hb5
      obtain ⟨p5, m5, k5, rfl, _⟩ := hof5
      have HZ5 : Hid (w2.heap.size + 2 ≤ w5.heap.size) := by have := hb5.size; have := HZ4.out; unfold Hid; omega
      clear hl5 hbit hb5
      have hbV : Below w5.heap.size w5 ((w5.alloc (.cells #[.int .u64 (m : Int), .int .u64 (k : Int), .slice p5 m5 k5] 39)).drew) := ((Below.refl _ _).alloc (Nat.le_refl _) _).drew
      have hzV : ((w5.alloc (.cells #[.int .u64 (m : Int), .int .u64 (k : Int), .slice p5 m5 k5] 39)).drew).heap.size = w5.heap.size + 1 := by show (w5.alloc _).heap.size = _; simp
      have hA := (HFA.out.below rfl HB5.out).below rfl hbV
      have hB := (HFB.out.below rfl HB5.out).below rfl hbV
      obtain ⟨_, _, _, eA, sA, xA⟩ := hA
      obtain ⟨_, _, _, eB, sB, xB⟩ := hB
      simp only [Value.agg.injEq, Array.mk.injEq, List.cons.injEq, and_true, true_and] at eA eB
      rw [← eA] at sA
      rw [← eB] at sB
      have HSf := Lib.hid sA
      have HSg := Lib.hid sB
      have HXf := Lib.hid xA
      have HXg := Lib.hid xB
      have HSh := Lib.hid (HOF5.out.is.below rfl hbV)
      have kA := ((HKA.out.below HB5.out (by have := HZ4.out; omega)).below hbV (by have := HZ5.out; omega))
      have kB := ((HKB.out.below HB5.out (by have := HZ4.out; omega)).below hbV (by have := HZ5.out; omega))
      have kC := (Blk.new w5 39 #[.int .u64 (m : Int), .int .u64 (k : Int), .slice p5 m5 k5]).drew
      have a0 : ((w5.alloc (.cells #[.int .u64 (m : Int), .int .u64 (k : Int), .slice p5 m5 k5] 39)).drew).cell? ⟨w2.heap.size, 0, none⟩ = some (.int .u64 (m : Int)) := kA.cell 0 rfl
      have a1 : ((w5.alloc (.cells #[.int .u64 (m : Int), .int .u64 (k : Int), .slice p5 m5 k5] 39)).drew).cell? ⟨w2.heap.size, 1, none⟩ = some (.int .u64 (k : Int)) := kA.cell 1 rfl
      have a2 : ((w5.alloc (.cells #[.int .u64 (m : Int), .int .u64 (k : Int), .slice p5 m5 k5] 39)).drew).cell? ⟨w2.heap.size, 2, none⟩ = some (.slice p1 m1 k1) := kA.cell 2 rfl
      have b0 : ((w5.alloc (.cells #[.int .u64 (m : Int), .int .u64 (k : Int), .slice p5 m5 k5] 39)).drew).cell? ⟨w2.heap.size + 1, 0, none⟩ = some (.int .u64 (m : Int)) := kB.cell 0 rfl
      have b1 : ((w5.alloc (.cells #[.int .u64 (m : Int), .int .u64 (k : Int), .slice p5 m5 k5] 39)).drew).cell? ⟨w2.heap.size + 1, 1, none⟩ = some (.int .u64 (k : Int)) := kB.cell 1 rfl
      have b2 : ((w5.alloc (.cells #[.int .u64 (m : Int), .int .u64 (k : Int), .slice p5 m5 k5] 39)).drew).cell? ⟨w2.heap.size + 1, 2, none⟩ = some (.slice p2 m2 k2) := kB.cell 2 rfl
      have c0 : ((w5.alloc (.cells #[.int .u64 (m : Int), .int .u64 (k : Int), .slice p5 m5 k5] 39)).drew).cell? ⟨w5.heap.size, 0, none⟩ = some (.int .u64 (m : Int)) := kC.cell 0 rfl
      have c1 : ((w5.alloc (.cells #[.int .u64 (m : Int), .int .u64 (k : Int), .slice p5 m5 k5] 39)).drew).cell? ⟨w5.heap.size, 1, none⟩ = some (.int .u64 (k : Int)) := kC.cell 1 rfl
      have c2 : ((w5.alloc (.cells #[.int .u64 (m : Int), .int .u64 (k : Int), .slice p5 m5 k5] 39)).drew).cell? ⟨w5.heap.size, 2, none⟩ = some (.slice p5 m5 k5) := kC.cell 2 rfl
      have HZ : Hid (w5.heap.size + 1 ≤ ((w5.alloc (.cells #[.int .u64 (m : Int), .int .u64 (k : Int), .slice p5 m5 k5] 39)).drew).heap.size ∧ w2.heap.size + 2 ≤ ((w5.alloc (.cells #[.int .u64 (m : Int), .int .u64 (k : Int), .slice p5 m5 k5] 39)).drew).heap.size) := by have := HZ5.out; unfold Hid; omega
      have HT := Lib.hid ((HB4.out.trans (HB5.out.mono HB4.out.size)).trans (hbV.mono (Nat.le_trans HB4.out.size HB5.out.size)))
      have HL5w : Hid ((m + 63) / 64 ≤ ws5.length) := by rw [HL5.out, HL.out]; exact Nat.le_refl _
      have HL5x : Hid (ws5.length ≤ 10000) := by rw [HL5.out, HL.out]; unfold Hid; omega
      have HBO : Hid (Bsm.bitsOf ws5 m = orr (Bsm.bitsOf ws m) (Bsm.bitsOf ws2 m) (Bsm.bitsOf ws m).length) := by
        apply Bsm.ext_getD
        · rw [Bsm.bitsOf_len, orr_len, Bsm.bitsOf_len]
        · intro j hj
          rw [Bsm.bitsOf_len] at hj
          rw [Bsm.bitsOf_get, HBIT.out, orr_get _ _ _ _ (by rw [Bsm.bitsOf_len]; exact hj), Bsm.bitsOf_get, Bsm.bitsOf_get]
          simp [hj]
      clear hbV hzV eA sA xA eB sB xB kA kB kC HFA HFB HKA HKB HZ4 HB4 HB5 HOF HOF2 HOF5 HZ5 HB1 HB2 HS HX HS2 HX2 HS2b HM HK HW4 HZW HL HL2 HL5 HBIT
      go_wp2_with fail
      go_region_held3 (fun w' => w'.cell? ⟨w2.heap.size, 0, none⟩ = some (.int .u64 (m : Int)) ∧ w'.cell? ⟨w2.heap.size, 1, none⟩ = some (.int .u64 (k : Int)) ∧ w'.cell? ⟨w2.heap.size, 2, none⟩ = some (.slice p1 m1 k1) ∧ w'.cell? ⟨w2.heap.size + 1, 0, none⟩ = some (.int .u64 (m : Int)) ∧ w'.cell? ⟨w2.heap.size + 1, 1, none⟩ = some (.int .u64 (k : Int)) ∧ w'.cell? ⟨w2.heap.size + 1, 2, none⟩ = some (.slice p2 m2 k2) ∧ w'.cell? ⟨w5.heap.size, 0, none⟩ = some (.int .u64 (m : Int)) ∧ w'.cell? ⟨w5.heap.size, 1, none⟩ = some (.int .u64 (k : Int)) ∧ w'.cell? ⟨w5.heap.size, 2, none⟩ = some (.slice p5 m5 k5))
        ((first | go_keep | exact ⟨by assumption, by assumption, by assumption, by assumption, by assumption, by assumption, by assumption, by assumption, by assumption⟩))
        ((first
          | (go_at_call 18; (with_reducible refine Calls.mono (blsame_yes _ _ m k ws5 _ _ _ HSh.out HVo.out rfl HL5w.out HL5x.out HBO.out (by omega)) ?_); rintro e wn ⟨rfl, hbn⟩; have HSf := Lib.hid (HSf.out.below rfl hbn); have HSg := Lib.hid (HSg.out.below rfl hbn); have HSh := Lib.hid (HSh.out.below rfl hbn); (try have HVf := Lib.hid (HVf.out.below rfl hbn)); (try have HVg := Lib.hid (HVg.out.below rfl hbn)); (try have HVo := Lib.hid (HVo.out.below rfl hbn)); have HT := Lib.hid (HT.out.trans (hbn.mono HT.out.size)); have a0 := (hbn.cell (p := ⟨w2.heap.size, 0, none⟩) (by have := HZ.out; simp only []; omega)).trans a0; have a1 := (hbn.cell (p := ⟨w2.heap.size, 1, none⟩) (by have := HZ.out; simp only []; omega)).trans a1; have a2 := (hbn.cell (p := ⟨w2.heap.size, 2, none⟩) (by have := HZ.out; simp only []; omega)).trans a2; have b0 := (hbn.cell (p := ⟨w2.heap.size + 1, 0, none⟩) (by have := HZ.out; simp only []; omega)).trans b0; have b1 := (hbn.cell (p := ⟨w2.heap.size + 1, 1, none⟩) (by have := HZ.out; simp only []; omega)).trans b1; have b2 := (hbn.cell (p := ⟨w2.heap.size + 1, 2, none⟩) (by have := HZ.out; simp only []; omega)).trans b2; have c0 := (hbn.cell (p := ⟨w5.heap.size, 0, none⟩) (by have := HZ.out; simp only []; omega)).trans c0; have c1 := (hbn.cell (p := ⟨w5.heap.size, 1, none⟩) (by have := HZ.out; simp only []; omega)).trans c1; have c2 := (hbn.cell (p := ⟨w5.heap.size, 2, none⟩) (by have := HZ.out; simp only []; omega)).trans c2; have HZ : Hid (w5.heap.size + 1 ≤ wn.heap.size ∧ w2.heap.size + 2 ≤ wn.heap.size) := (by have := HZ.out; have := hbn.size; unfold Hid; omega); clear hbn)
          | (go_at_call 23; (with_reducible refine Calls.mono (blor_any _ _ _ _ _ HVf.out HVg.out (by rw [Bsm.bitsOf_len, Bsm.bitsOf_len]) (by rw [Bsm.bitsOf_len]; omega)) ?_); rintro e wn ⟨vo, rfl, hown, hbn⟩; have HSf := Lib.hid (HSf.out.below rfl hbn); have HSg := Lib.hid (HSg.out.below rfl hbn); have HSh := Lib.hid (HSh.out.below rfl hbn); (try have HVf := Lib.hid (HVf.out.below rfl hbn)); (try have HVg := Lib.hid (HVg.out.below rfl hbn)); (try have HVo := Lib.hid (HVo.out.below rfl hbn)); have HVo := Lib.hid (Sl.of_owns hown); have HT := Lib.hid (HT.out.trans (hbn.mono HT.out.size)); have a0 := (hbn.cell (p := ⟨w2.heap.size, 0, none⟩) (by have := HZ.out; simp only []; omega)).trans a0; have a1 := (hbn.cell (p := ⟨w2.heap.size, 1, none⟩) (by have := HZ.out; simp only []; omega)).trans a1; have a2 := (hbn.cell (p := ⟨w2.heap.size, 2, none⟩) (by have := HZ.out; simp only []; omega)).trans a2; have b0 := (hbn.cell (p := ⟨w2.heap.size + 1, 0, none⟩) (by have := HZ.out; simp only []; omega)).trans b0; have b1 := (hbn.cell (p := ⟨w2.heap.size + 1, 1, none⟩) (by have := HZ.out; simp only []; omega)).trans b1; have b2 := (hbn.cell (p := ⟨w2.heap.size + 1, 2, none⟩) (by have := HZ.out; simp only []; omega)).trans b2; have c0 := (hbn.cell (p := ⟨w5.heap.size, 0, none⟩) (by have := HZ.out; simp only []; omega)).trans c0; have c1 := (hbn.cell (p := ⟨w5.heap.size, 1, none⟩) (by have := HZ.out; simp only []; omega)).trans c1; have c2 := (hbn.cell (p := ⟨w5.heap.size, 2, none⟩) (by have := HZ.out; simp only []; omega)).trans c2; have HZ : Hid (w5.heap.size + 1 ≤ wn.heap.size ∧ w2.heap.size + 2 ≤ wn.heap.size) := (by have := HZ.out; have := hbn.size; unfold Hid; omega); clear hbn hown)
          | (go_at_call 24; (go_fit (blbits_any m _ rfl _ (.slice p1 m1 k1) ws _ HSf.out HXf.out (by omega))); rintro e wn ⟨vf, rfl, hown, hbn⟩; have HSf := Lib.hid (HSf.out.below rfl hbn); have HSg := Lib.hid (HSg.out.below rfl hbn); have HSh := Lib.hid (HSh.out.below rfl hbn); (try have HVf := Lib.hid (HVf.out.below rfl hbn)); (try have HVg := Lib.hid (HVg.out.below rfl hbn)); (try have HVo := Lib.hid (HVo.out.below rfl hbn)); have HVf := Lib.hid (Sl.of_owns hown); have HT := Lib.hid (HT.out.trans (hbn.mono HT.out.size)); have a0 := (hbn.cell (p := ⟨w2.heap.size, 0, none⟩) (by have := HZ.out; simp only []; omega)).trans a0; have a1 := (hbn.cell (p := ⟨w2.heap.size, 1, none⟩) (by have := HZ.out; simp only []; omega)).trans a1; have a2 := (hbn.cell (p := ⟨w2.heap.size, 2, none⟩) (by have := HZ.out; simp only []; omega)).trans a2; have b0 := (hbn.cell (p := ⟨w2.heap.size + 1, 0, none⟩) (by have := HZ.out; simp only []; omega)).trans b0; have b1 := (hbn.cell (p := ⟨w2.heap.size + 1, 1, none⟩) (by have := HZ.out; simp only []; omega)).trans b1; have b2 := (hbn.cell (p := ⟨w2.heap.size + 1, 2, none⟩) (by have := HZ.out; simp only []; omega)).trans b2; have c0 := (hbn.cell (p := ⟨w5.heap.size, 0, none⟩) (by have := HZ.out; simp only []; omega)).trans c0; have c1 := (hbn.cell (p := ⟨w5.heap.size, 1, none⟩) (by have := HZ.out; simp only []; omega)).trans c1; have c2 := (hbn.cell (p := ⟨w5.heap.size, 2, none⟩) (by have := HZ.out; simp only []; omega)).trans c2; have HZ : Hid (w5.heap.size + 1 ≤ wn.heap.size ∧ w2.heap.size + 2 ≤ wn.heap.size) := (by have := HZ.out; have := hbn.size; unfold Hid; omega); clear hbn hown)
          | (go_at_call 24; (go_fit (blbits_any m _ rfl _ (.slice p2 m2 k2) ws2 _ HSg.out HXg.out (by omega))); rintro e wn ⟨vg, rfl, hown, hbn⟩; have HSf := Lib.hid (HSf.out.below rfl hbn); have HSg := Lib.hid (HSg.out.below rfl hbn); have HSh := Lib.hid (HSh.out.below rfl hbn); (try have HVf := Lib.hid (HVf.out.below rfl hbn)); (try have HVg := Lib.hid (HVg.out.below rfl hbn)); (try have HVo := Lib.hid (HVo.out.below rfl hbn)); have HVg := Lib.hid (Sl.of_owns hown); have HT := Lib.hid (HT.out.trans (hbn.mono HT.out.size)); have a0 := (hbn.cell (p := ⟨w2.heap.size, 0, none⟩) (by have := HZ.out; simp only []; omega)).trans a0; have a1 := (hbn.cell (p := ⟨w2.heap.size, 1, none⟩) (by have := HZ.out; simp only []; omega)).trans a1; have a2 := (hbn.cell (p := ⟨w2.heap.size, 2, none⟩) (by have := HZ.out; simp only []; omega)).trans a2; have b0 := (hbn.cell (p := ⟨w2.heap.size + 1, 0, none⟩) (by have := HZ.out; simp only []; omega)).trans b0; have b1 := (hbn.cell (p := ⟨w2.heap.size + 1, 1, none⟩) (by have := HZ.out; simp only []; omega)).trans b1; have b2 := (hbn.cell (p := ⟨w2.heap.size + 1, 2, none⟩) (by have := HZ.out; simp only []; omega)).trans b2; have c0 := (hbn.cell (p := ⟨w5.heap.size, 0, none⟩) (by have := HZ.out; simp only []; omega)).trans c0; have c1 := (hbn.cell (p := ⟨w5.heap.size, 1, none⟩) (by have := HZ.out; simp only []; omega)).trans c1; have c2 := (hbn.cell (p := ⟨w5.heap.size, 2, none⟩) (by have := HZ.out; simp only []; omega)).trans c2; have HZ : Hid (w5.heap.size + 1 ≤ wn.heap.size ∧ w2.heap.size + 2 ≤ wn.heap.size) := (by have := HZ.out; have := hbn.size; unfold Hid; omega); clear hbn hown)))
      all_goals
        go_wp2_with fail
        go_ret
        exact ⟨rfl, HT.out⟩
end Go.Proofs.Ytbcbkieebelleaa
