/- The walks of BitSet.SetTo, impl.BSSet and impl.BSSetTo. -/
import Derived.Test.YtbgmkojiklphmaaBsFlip
namespace Go.Proofs.Ytbgmkojiklphmaa
set_option linter.unusedVariables false
open Go.RowKit

set_option maxHeartbeats 400000 in
theorem setto_any (B p L i : Nat) (ws : List Nat) (w : World) (hb : Bs B w p L ws ws.length) (hwl : ws.length = (L + 63) / 64) (hL : L ≤ 10000) (hi2 : i ≤ 10000) (hBw : B ≤ w.heap.size) :
    Calls Try.prog 61 #[.pointer (some ⟨p, 0, none⟩), .int .u64 (i : Int), .bool true] w fun e w' => e = .returned (.pointer (some ⟨p, 0, none⟩)) ∧
      ∃ ws' cap', Bs B w' p (max L (i + 1)) ws' cap' ∧ max L (i + 1) ≤ 64 * ws'.length ∧ (∀ j, Bsm.bit ws' j = (Bsm.bit ws j || decide (j = i))) ∧ Below B w w' := by
  have HB := Lib.hid hb
  clear hb
  go_enter Try.func61, Try.ntmps61
  go_wp2_with fail
  refine (set_any B p L i ws _ HB.out hwl hL hi2 hBw).mono ?_
  rintro e w' ⟨rfl, h⟩
  have H := Lib.hid h
  clear h
  go_wp2_with fail
  go_ret
  exact ⟨rfl, H.out⟩

set_option maxRecDepth 100000 in
set_option maxHeartbeats 1000000 in
theorem bsset_any (v : Value) (bs : List Bool) (i : Nat) (I : Int) (hI : I = i) (w : World) (hv : IsBits w v bs) (hn : bs.length ≤ 400) (hi : i < 1000) :
    Calls Try.prog 27 #[v, .int .u64 I] w fun e w' => ∃ v', e = .returned v' ∧
      OwnBits w.heap.size w' v' (put 1 (Bsm.grow bs (i + 1)) i 1) ∧ Below w.heap.size w w' := by
  subst hI
  have hv0 := hv
  obtain ⟨s, rfl, hs⟩ := hv
  obtain ⟨a, n, cap, rfl, _⟩ := hs
  have hb0 : Below w.heap.size w ((w.alloc (.cells #[.int .u64 (bs.length : Int), .slice a n cap] 25)).alloc (.cells #[.int .u64 0, .slice none 0 0] 25)) :=
    ((Below.refl _ _).alloc (Nat.le_refl _) _).alloc (by simp) _
  have hblk0 := Blk.new (w.alloc (.cells #[.int .u64 (bs.length : Int), .slice a n cap] 25)) 25 #[.int .u64 0, .slice none 0 0]
  rw [World.size_alloc] at hblk0
  have HV := Lib.hid (hv0.below rfl hb0)
  have HB0 := Lib.hid hb0
  have HBK0 := Lib.hid hblk0
  clear hv0 hb0 hblk0
  go_enter Try.func27, Try.ntmps27
  go_wp2_with fail
  refine (set64_any _ bs _ HV.out (by omega)).mono ?_
  rintro e w1 ⟨p, ws, rfl, hbs, hwl, hbit, hb1⟩
  have hz1 := hb1.size
  simp only [World.size_alloc] at hbs hz1
  rw [← hwl] at hbs
  have HBIT := Lib.hid hbit
  have HBS := Lib.hid hbs
  have HWL := Lib.hid hwl
  have hclean : ∀ j, bs.length ≤ j → Bsm.bit ws j = false := fun j hj => by rw [hbit]; exact Bsm.getD_out bs j hj
  have HC := Lib.hid hclean
  clear hbit hbs hwl hclean
  go_wp2_with fail
  refine (set_any (w.heap.size + 1 + 1) p bs.length i ws _ HBS.out HWL.out (by omega) (by omega) (by omega)).mono ?_
  rintro e w2 ⟨rfl, ws', cap', h1, h2, h3, h4⟩
  have H3 := Lib.hid h3
  clear h3
  go_wp2_with fail
  refine (said64_any (w.heap.size + 1 + 1) p (max bs.length (i + 1)) ws' cap' _ h1 h2 (by omega)).mono ?_
  rintro e w3 ⟨v', rfl, hob, hb3⟩
  have HOB := Lib.hid hob
  obtain ⟨p', m', c', rfl, _⟩ := hob
  have hz2 := h4.size
  have hz3 := hb3.size
  have bk := ((HBK0.out.below hb1 (by simp)).below h4 (by omega)).below hb3 (by omega)
  have q0 : w3.cell? ⟨w.heap.size + 1, 0, none⟩ = some (.int .u64 0) := bk.cell 0 rfl
  have q1 : w3.cell? ⟨w.heap.size + 1, 1, none⟩ = some (.slice none 0 0) := bk.cell 1 rfl
  have y0 := bk.free 0
  have y1 := bk.free 1
  clear bk
  go_wp2_with fail
  refine bodyPost_ret (v := .agg #[.int .u64 ((Bsm.bitsOf ws' (max bs.length (i + 1))).length : Int), .slice p' m' c']) (by simp [results, Try.results27, go_sem, *]) rfl ?_
  have eb : Bsm.bitsOf ws' (max bs.length (i + 1)) = put 1 (Bsm.grow bs (i + 1)) i 1 := by
    apply eq_bits
    · rw [put_len, Bsm.grow_len]
    · intro j hj
      rw [put_get _ _ _ _ _ (by rw [Bsm.grow_len]; omega), H3.out, HBIT.out, Bsm.grow_get]
      by_cases e : j = i
      · subst e; rw [if_pos (by omega), putAt1]; simp
      · rw [if_neg (by omega)]; simp [e]
  refine ⟨_, rfl, ?_, (((HB0.out.trans (hb1.mono (by simp; omega))).trans (h4.mono (by omega))).trans (hb3.mono (by omega))).setCell (by simp) _ |>.setCell (by simp) _⟩
  rw [← eb]
  exact ((HOB.out.set (by simp; omega) _).set (by simp; omega) _).weaken (by omega)

set_option maxRecDepth 100000 in
set_option maxHeartbeats 1000000 in
theorem bssetto_any (v : Value) (bs : List Bool) (i : Nat) (I : Int) (hI : I = i) (w : World) (hv : IsBits w v bs) (hn : bs.length ≤ 400) (hi : i < 1000) :
    Calls Try.prog 28 #[v, .int .u64 I, .bool true] w fun e w' => ∃ v', e = .returned v' ∧
      OwnBits w.heap.size w' v' (put 1 (Bsm.grow bs (i + 1)) i 1) ∧ Below w.heap.size w w' := by
  subst hI
  have hv0 := hv
  obtain ⟨s, rfl, hs⟩ := hv
  obtain ⟨a, n, cap, rfl, _⟩ := hs
  have hb0 : Below w.heap.size w ((w.alloc (.cells #[.int .u64 (bs.length : Int), .slice a n cap] 25)).alloc (.cells #[.int .u64 0, .slice none 0 0] 25)) :=
    ((Below.refl _ _).alloc (Nat.le_refl _) _).alloc (by simp) _
  have hblk0 := Blk.new (w.alloc (.cells #[.int .u64 (bs.length : Int), .slice a n cap] 25)) 25 #[.int .u64 0, .slice none 0 0]
  rw [World.size_alloc] at hblk0
  have HV := Lib.hid (hv0.below rfl hb0)
  have HB0 := Lib.hid hb0
  have HBK0 := Lib.hid hblk0
  clear hv0 hb0 hblk0
  go_enter Try.func28, Try.ntmps28
  go_wp2_with fail
  refine (set64_any _ bs _ HV.out (by omega)).mono ?_
  rintro e w1 ⟨p, ws, rfl, hbs, hwl, hbit, hb1⟩
  have hz1 := hb1.size
  simp only [World.size_alloc] at hbs hz1
  rw [← hwl] at hbs
  have HBIT := Lib.hid hbit
  have HBS := Lib.hid hbs
  have HWL := Lib.hid hwl
  have hclean : ∀ j, bs.length ≤ j → Bsm.bit ws j = false := fun j hj => by rw [hbit]; exact Bsm.getD_out bs j hj
  have HC := Lib.hid hclean
  clear hbit hbs hwl hclean
  go_wp2_with fail
  refine (setto_any (w.heap.size + 1 + 1) p bs.length i ws _ HBS.out HWL.out (by omega) (by omega) (by omega)).mono ?_
  rintro e w2 ⟨rfl, ws', cap', h1, h2, h3, h4⟩
  have H3 := Lib.hid h3
  clear h3
  go_wp2_with fail
  refine (said64_any (w.heap.size + 1 + 1) p (max bs.length (i + 1)) ws' cap' _ h1 h2 (by omega)).mono ?_
  rintro e w3 ⟨v', rfl, hob, hb3⟩
  have HOB := Lib.hid hob
  obtain ⟨p', m', c', rfl, _⟩ := hob
  have hz2 := h4.size
  have hz3 := hb3.size
  have bk := ((HBK0.out.below hb1 (by simp)).below h4 (by omega)).below hb3 (by omega)
  have q0 : w3.cell? ⟨w.heap.size + 1, 0, none⟩ = some (.int .u64 0) := bk.cell 0 rfl
  have q1 : w3.cell? ⟨w.heap.size + 1, 1, none⟩ = some (.slice none 0 0) := bk.cell 1 rfl
  have y0 := bk.free 0
  have y1 := bk.free 1
  clear bk
  go_wp2_with fail
  refine bodyPost_ret (v := .agg #[.int .u64 ((Bsm.bitsOf ws' (max bs.length (i + 1))).length : Int), .slice p' m' c']) (by simp [results, Try.results28, go_sem, *]) rfl ?_
  have eb : Bsm.bitsOf ws' (max bs.length (i + 1)) = put 1 (Bsm.grow bs (i + 1)) i 1 := by
    apply eq_bits
    · rw [put_len, Bsm.grow_len]
    · intro j hj
      rw [put_get _ _ _ _ _ (by rw [Bsm.grow_len]; omega), H3.out, HBIT.out, Bsm.grow_get]
      by_cases e : j = i
      · subst e; rw [if_pos (by omega), putAt1]; simp
      · rw [if_neg (by omega)]; simp [e]
  refine ⟨_, rfl, ?_, (((HB0.out.trans (hb1.mono (by simp; omega))).trans (h4.mono (by omega))).trans (hb3.mono (by omega))).setCell (by simp) _ |>.setCell (by simp) _⟩
  rw [← eb]
  exact ((HOB.out.set (by simp; omega) _).set (by simp; omega) _).weaken (by omega)
end Go.Proofs.Ytbgmkojiklphmaa
