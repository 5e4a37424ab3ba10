/- Walk of impl.BSShiftRight. -/
import Derived.Test.YtbgmkojiklphmaaBsShr
import Derived.Test.YtbgmkojiklphmaaBsShiftSpec
import Derived.Test.YtbgmkojiklphmaaBsFlip
namespace Go.Proofs.Ytbgmkojiklphmaa
set_option linter.unusedVariables false
open Go.RowKit
theorem shr_any (B p L b : Nat) (ws : List Nat) (cap : Nat) (w : World) (hb : Bs B w p L ws cap) (hn9 : ws.length ≤ 1000) (hb2 : b ≤ 1000) :
    Calls Try.prog 74 #[.pointer (some ⟨p, 0, none⟩), .int .u64 (b : Int)] w fun e w' => e = .returned (.tuple #[]) ∧
      ∃ ws' cap', Bs B w' p L ws' cap' ∧ ws'.length = ws.length ∧ (∀ j, Bsm.bit ws' j = Bsm.bit ws (j + b)) ∧ Below B w w' := by
  have hout : ∀ j, 64 * ws.length ≤ j → Bsm.bit ws j = false := fun j hj => by
    unfold Bsm.bit; rw [List.getD_eq_getElem?_getD, List.getElem?_eq_none (by omega)]; simp
  refine Calls.mono (R := fun e w' => e = .returned (.tuple #[]) ∧ ∃ ws', Bs B w' p L ws' cap ∧ ws'.length = ws.length ∧ (∀ j, Bsm.bit ws' j = Bsm.bit ws (j + b)) ∧ Below B w w') ?_ fun e w' ⟨he, ws', h⟩ => ⟨he, ws', cap, h⟩
  by_cases h0 : b = 0
  · exact shr_zero B p L b ws cap w hb hn9 h0
  · rcases Bsm.top_split (Bsm.bit ws) (64 * ws.length) hout with hz | ⟨t, ht, hz⟩
    · exact shr_none B p L b ws cap w hb hn9 (by omega) hb2 hz
    · have ht5 : t < 64 * ws.length := by
        rcases Nat.lt_or_ge t (64 * ws.length) with h | h
        · exact h
        · rw [hout t h] at ht; cases ht
      by_cases hbt : t < b
      · exact shr_all B p L b ws cap w hb hn9 t (by omega) hbt hb2 ht hz
      · by_cases hm : b % 64 = 0
        · exact shr_copy B p L b ws cap w hb hn9 t (by omega) (by omega) (by omega) hb2 hm ht hz
        · exact shr_loop B p L b ws cap w hb hn9 t (by omega) (by omega) (by omega) hb2 hm ht hz

set_option maxRecDepth 100000 in
set_option maxHeartbeats 1000000 in
theorem bsshr_any (v : Value) (bs : List Bool) (b : Nat) (I : Int) (hI : I = b) (w : World) (hv : IsBits w v bs) (hn : bs.length ≤ 400) (hb : b ≤ 1000) :
    Calls Try.prog 44 #[v, .int .u64 I] w fun e w' => ∃ v' cs, e = .returned v' ∧
      OwnBits w.heap.size w' v' cs ∧ Bsm.pos cs = Bsm.shq bs b bs.length ∧ cs.length ≤ 100000 ∧ Below w.heap.size w w' := by
  subst hI
  have hv0 := hv
  obtain ⟨s, rfl, hs⟩ := hv
  obtain ⟨a, n, cap, rfl, _⟩ := hs
  have hb0 : Below w.heap.size w ((w.alloc (.cells #[.int .u64 (bs.length : Int), .slice a n cap] 25)).alloc (.cells #[.int .u64 0, .slice none 0 0] 25)) :=
    ((Below.refl _ _).alloc (Nat.le_refl _) _).alloc (by simp) _
  have hblk0 := Blk.new (w.alloc (.cells #[.int .u64 (bs.length : Int), .slice a n cap] 25)) 25 #[.int .u64 0, .slice none 0 0]
  rw [World.size_alloc] at hblk0
  have HV := Lib.hid (hv0.below rfl hb0)
  have HB0 := Lib.hid hb0
  have HBK0 := Lib.hid hblk0
  clear hv0 hb0 hblk0
  go_enter Try.func44, Try.ntmps44
  go_wp2_with fail
  refine (set64_any _ bs _ HV.out (by omega)).mono ?_
  rintro e w1 ⟨p, ws, rfl, hbs, hwl, hbit, hb1⟩
  have hz1 := hb1.size
  simp only [World.size_alloc] at hbs hz1
  rw [← hwl] at hbs
  have HBIT := Lib.hid hbit
  have HBS := Lib.hid hbs
  have HWL := Lib.hid hwl
  have hclean : ∀ j, bs.length ≤ j → Bsm.bit ws j = false := fun j hj => by rw [hbit]; exact Bsm.getD_out bs j hj
  have HC := Lib.hid hclean
  clear hbit hbs hwl hclean
  go_wp2_with fail
  refine (shr_any (w.heap.size + 1 + 1) p bs.length b ws _ _ HBS.out (by rw [HWL.out]; omega) (by omega)).mono ?_
  rintro e w2 ⟨rfl, ws', cap', h1, h2, h3, h4⟩
  have H3 := Lib.hid h3
  clear h3
  go_wp2_with fail
  refine (said64_any (w.heap.size + 1 + 1) p (bs.length) ws' cap' _ h1 (by rw [h2, HWL.out]; omega) (by omega)).mono ?_
  rintro e w3 ⟨v', rfl, hob, hb3⟩
  have HOB := Lib.hid hob
  obtain ⟨p', m', c', rfl, _⟩ := hob
  have hz2 := h4.size
  have hz3 := hb3.size
  have bk := ((HBK0.out.below hb1 (by simp)).below h4 (by omega)).below hb3 (by omega)
  have q0 : w3.cell? ⟨w.heap.size + 1, 0, none⟩ = some (.int .u64 0) := bk.cell 0 rfl
  have q1 : w3.cell? ⟨w.heap.size + 1, 1, none⟩ = some (.slice none 0 0) := bk.cell 1 rfl
  have y0 := bk.free 0
  have y1 := bk.free 1
  clear bk
  go_wp2_with fail
  refine bodyPost_ret (v := .agg #[.int .u64 ((Bsm.bitsOf ws' (bs.length)).length : Int), .slice p' m' c']) (by simp [results, Try.results44, go_sem, *]) rfl ?_
  have eb : Bsm.pos (Bsm.bitsOf ws' (bs.length)) = Bsm.shq bs b bs.length := by
    apply Bsm.pos_shift
    · rw [Bsm.bitsOf_len]
    · intro j
      rw [Bsm.bitsOf_get, H3.out, HBIT.out]
      by_cases hj : j < bs.length
      · simp [hj]
      · rw [Bsm.getD_out bs (j + b) (by omega)]; simp
  refine ⟨_, Bsm.bitsOf ws' (bs.length), rfl, ?_, eb, by rw [Bsm.bitsOf_len]; omega, (((HB0.out.trans (hb1.mono (by simp; omega))).trans (h4.mono (by omega))).trans (hb3.mono (by omega))).setCell (by simp) _ |>.setCell (by simp) _⟩
  have hfin := ((HOB.out.set (a := ⟨w.heap.size + 1, 0, none⟩) (by simp; omega) (.int .u64 ((Bsm.bitsOf ws' (bs.length)).length : Int))).set (a := ⟨w.heap.size + 1, 1, none⟩) (by simp; omega) (.slice p' m' c')).weaken (B' := w.heap.size) (by omega)
  exact hfin
end Go.Proofs.Ytbgmkojiklphmaa
