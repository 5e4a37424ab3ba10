/- Walk of impl.BSCompact. -/
import Derived.Test.YtbgmkojiklphmaaBsCompact
import Derived.Test.YtbgmkojiklphmaaBsFlip
namespace Go.Proofs.Ytbgmkojiklphmaa
set_option linter.unusedVariables false
open Go.RowKit

set_option maxRecDepth 100000 in
set_option maxHeartbeats 1000000 in
theorem bscompact_any (v : Value) (bs : List Bool)  (w : World) (hv : IsBits w v bs) (hn : bs.length ≤ 400)  :
    Calls Try.prog 30 #[v] w fun e w' => ∃ v' cs, e = .returned v' ∧
      OwnBits w.heap.size w' v' cs ∧ Bsm.pos cs = Bsm.pos bs ∧ cs.length ≤ 100000 ∧ Below w.heap.size w w' := by
  skip
  have hv0 := hv
  obtain ⟨s, rfl, hs⟩ := hv
  obtain ⟨a, n, cap, rfl, _⟩ := hs
  have hb0 : Below w.heap.size w ((w.alloc (.cells #[.int .u64 (bs.length : Int), .slice a n cap] 25)).alloc (.cells #[.int .u64 0, .slice none 0 0] 25)) :=
    ((Below.refl _ _).alloc (Nat.le_refl _) _).alloc (by simp) _
  have hblk0 := Blk.new (w.alloc (.cells #[.int .u64 (bs.length : Int), .slice a n cap] 25)) 25 #[.int .u64 0, .slice none 0 0]
  rw [World.size_alloc] at hblk0
  have HV := Lib.hid (hv0.below rfl hb0)
  have HB0 := Lib.hid hb0
  have HBK0 := Lib.hid hblk0
  clear hv0 hb0 hblk0
  go_enter Try.func30, Try.ntmps30
  go_wp2_with fail
  refine (set64_any _ bs _ HV.out (by omega)).mono ?_
  rintro e w1 ⟨p, ws, rfl, hbs, hwl, hbit, hb1⟩
  have hz1 := hb1.size
  simp only [World.size_alloc] at hbs hz1
  rw [← hwl] at hbs
  have HBIT := Lib.hid hbit
  have HBS := Lib.hid hbs
  have HWL := Lib.hid hwl
  have hclean : ∀ j, bs.length ≤ j → Bsm.bit ws j = false := fun j hj => by rw [hbit]; exact Bsm.getD_out bs j hj
  have HC := Lib.hid hclean
  clear hbit hbs hwl hclean
  go_wp2_with fail
  refine (compact_any (w.heap.size + 1 + 1) p bs.length ws _ _ HBS.out HWL.out (by omega) (by omega) HC.out).mono ?_
  rintro e w2 ⟨rfl, L', ws', cap', h1, h2, h5, h3, h4⟩
  have H3 := Lib.hid h3
  clear h3
  go_wp2_with fail
  refine (said64_any (w.heap.size + 1 + 1) p (L') ws' cap' _ h1 h2 (by omega)).mono ?_
  rintro e w3 ⟨v', rfl, hob, hb3⟩
  have HOB := Lib.hid hob
  obtain ⟨p', m', c', rfl, _⟩ := hob
  have hz2 := h4.size
  have hz3 := hb3.size
  have bk := ((HBK0.out.below hb1 (by simp)).below h4 (by omega)).below hb3 (by omega)
  have q0 : w3.cell? ⟨w.heap.size + 1, 0, none⟩ = some (.int .u64 0) := bk.cell 0 rfl
  have q1 : w3.cell? ⟨w.heap.size + 1, 1, none⟩ = some (.slice none 0 0) := bk.cell 1 rfl
  have y0 := bk.free 0
  have y1 := bk.free 1
  clear bk
  go_wp2_with fail
  refine bodyPost_ret (v := .agg #[.int .u64 ((Bsm.bitsOf ws' (L')).length : Int), .slice p' m' c']) (by simp [results, Try.results30, go_sem, *]) rfl ?_
  have eb : Bsm.pos (Bsm.bitsOf ws' (L')) = Bsm.pos bs := by
    apply Bsm.pos_ext
    intro j
    rw [Bsm.bitsOf_get, H3.out, HBIT.out]
  refine ⟨_, Bsm.bitsOf ws' (L'), rfl, ?_, eb, by rw [Bsm.bitsOf_len]; omega, (((HB0.out.trans (hb1.mono (by simp; omega))).trans (h4.mono (by omega))).trans (hb3.mono (by omega))).setCell (by simp) _ |>.setCell (by simp) _⟩
  have hfin := ((HOB.out.set (a := ⟨w.heap.size + 1, 0, none⟩) (by simp; omega) (.int .u64 ((Bsm.bitsOf ws' (L')).length : Int))).set (a := ⟨w.heap.size + 1, 1, none⟩) (by simp; omega) (.slice p' m' c')).weaken (B' := w.heap.size) (by omega)
  exact hfin
end Go.Proofs.Ytbgmkojiklphmaa
