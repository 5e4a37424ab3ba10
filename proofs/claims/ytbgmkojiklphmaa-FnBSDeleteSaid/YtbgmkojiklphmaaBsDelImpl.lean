/- Walk of impl.BSDeleteAt. -/
import Derived.Test.YtbgmkojiklphmaaBsDelete
import Derived.Test.YtbgmkojiklphmaaBsFlip
namespace Go.Proofs.Ytbgmkojiklphmaa
set_option linter.unusedVariables false
open Go.RowKit
theorem deletec_any (B p L i : Nat) (ws : List Nat) (cap : Nat) (w : World) (hb : Bs B w p L ws cap) (hwl : ws.length = (L + 63) / 64) (hi : i < L) (hL : L ≤ 10000) :
    Calls Try.prog 66 #[.pointer (some ⟨p, 0, none⟩), .int .u64 (i : Int)] w fun e w' => e = .returned (.pointer (some ⟨p, 0, none⟩)) ∧
      ∃ ws' cap', Bs B w' p (L - 1) ws' cap' ∧ L - 1 ≤ 64 * ws'.length ∧ (∀ j, j < L - 1 → Bsm.bit ws' j = if j < i then Bsm.bit ws j else Bsm.bit ws (j + 1)) ∧ Below B w w' :=
  (delete_any B p L i ws cap w hb hwl hi hL).mono fun e w' ⟨he, ws', h1, h2, h3, h4⟩ => ⟨he, ws', cap, h1, h2, h3, h4⟩

set_option maxRecDepth 100000 in
set_option maxHeartbeats 1000000 in
theorem bsdelete_any (v : Value) (bs : List Bool) (i : Nat) (I : Int) (hI : I = i) (w : World) (hv : IsBits w v bs) (hn : bs.length ≤ 400) (hi : i < bs.length) :
    Calls Try.prog 35 #[v, .int .u64 I] w fun e w' => ∃ v', e = .returned v' ∧
      OwnBits w.heap.size w' v' (Bsm.del bs i) ∧ Below w.heap.size w w' := by
  subst hI
  have hv0 := hv
  obtain ⟨s, rfl, hs⟩ := hv
  obtain ⟨a, n, cap, rfl, _⟩ := hs
  have hb0 : Below w.heap.size w ((w.alloc (.cells #[.int .u64 (bs.length : Int), .slice a n cap] 25)).alloc (.cells #[.int .u64 0, .slice none 0 0] 25)) :=
    ((Below.refl _ _).alloc (Nat.le_refl _) _).alloc (by simp) _
  have hblk0 := Blk.new (w.alloc (.cells #[.int .u64 (bs.length : Int), .slice a n cap] 25)) 25 #[.int .u64 0, .slice none 0 0]
  rw [World.size_alloc] at hblk0
  have HV := Lib.hid (hv0.below rfl hb0)
  have HB0 := Lib.hid hb0
  have HBK0 := Lib.hid hblk0
  clear hv0 hb0 hblk0
  go_enter Try.func35, Try.ntmps35
  go_wp2_with fail
  refine (set64_any _ bs _ HV.out (by omega)).mono ?_
  rintro e w1 ⟨p, ws, rfl, hbs, hwl, hbit, hb1⟩
  have hz1 := hb1.size
  simp only [World.size_alloc] at hbs hz1
  rw [← hwl] at hbs
  have HBIT := Lib.hid hbit
  have HBS := Lib.hid hbs
  have HWL := Lib.hid hwl
  have hclean : ∀ j, bs.length ≤ j → Bsm.bit ws j = false := fun j hj => by rw [hbit]; exact Bsm.getD_out bs j hj
  have HC := Lib.hid hclean
  clear hbit hbs hwl hclean
  go_wp2_with fail
  refine (deletec_any (w.heap.size + 1 + 1) p bs.length i ws _ _ HBS.out HWL.out hi (by omega)).mono ?_
  rintro e w2 ⟨rfl, ws', cap', h1, h2, h3, h4⟩
  have H3 := Lib.hid h3
  clear h3
  go_wp2_with fail
  refine (said64_any (w.heap.size + 1 + 1) p (bs.length - 1) ws' cap' _ h1 h2 (by omega)).mono ?_
  rintro e w3 ⟨v', rfl, hob, hb3⟩
  have HOB := Lib.hid hob
  obtain ⟨p', m', c', rfl, _⟩ := hob
  have hz2 := h4.size
  have hz3 := hb3.size
  have bk := ((HBK0.out.below hb1 (by simp)).below h4 (by omega)).below hb3 (by omega)
  have q0 : w3.cell? ⟨w.heap.size + 1, 0, none⟩ = some (.int .u64 0) := bk.cell 0 rfl
  have q1 : w3.cell? ⟨w.heap.size + 1, 1, none⟩ = some (.slice none 0 0) := bk.cell 1 rfl
  have y0 := bk.free 0
  have y1 := bk.free 1
  clear bk
  go_wp2_with fail
  refine bodyPost_ret (v := .agg #[.int .u64 ((Bsm.bitsOf ws' (bs.length - 1)).length : Int), .slice p' m' c']) (by simp [results, Try.results35, go_sem, *]) rfl ?_
  have eb : Bsm.bitsOf ws' (bs.length - 1) = Bsm.del bs i := by
    apply eq_bits
    · rw [Bsm.del_len _ _ hi]
    · intro j hj
      rw [H3.out j hj, Bsm.del_get _ _ _ hi, HBIT.out, HBIT.out]
  refine ⟨_, rfl, ?_, (((HB0.out.trans (hb1.mono (by simp; omega))).trans (h4.mono (by omega))).trans (hb3.mono (by omega))).setCell (by simp) _ |>.setCell (by simp) _⟩
  have hfin := ((HOB.out.set (a := ⟨w.heap.size + 1, 0, none⟩) (by simp; omega) (.int .u64 ((Bsm.bitsOf ws' (bs.length - 1)).length : Int))).set (a := ⟨w.heap.size + 1, 1, none⟩) (by simp; omega) (.slice p' m' c')).weaken (B' := w.heap.size) (by omega)
  rw [eb] at hfin ⊢
  exact hfin
end Go.Proofs.Ytbgmkojiklphmaa
