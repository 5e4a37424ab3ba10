/- Walks of impl.BSClearAll, BSSetAll, BSComplement, BSClone. -/
import Derived.Test.YtbgmkojiklphmaaBsWhole
import Derived.Test.YtbgmkojiklphmaaBsFlip
namespace Go.Proofs.Ytbgmkojiklphmaa
set_option linter.unusedVariables false
open Go.RowKit

theorem grow_same (bs : List Bool) : Bsm.grow bs bs.length = bs := by simp [Bsm.grow]

/-- BSPut over all bits -/
theorem put_all (v : Value) (bs : List Bool) (how : Nat) (T H : Int) (hT : T = bs.length) (hH : H = how) (w : World) (hv : Sl w v (bools bs)) (hn : bs.length ≤ 10000) (hh : how ≤ 2) :
    Calls Try.prog 21 #[v, .int .i64 0, .int .i64 T, .int .i64 H] w
      fun e w' => ∃ v', e = .returned v' ∧ w'.ownsRow w.heap.size 4 1 v' (put how bs 0 bs.length).length (bools (put how bs 0 bs.length)) ∧ Below w.heap.size w w' := by
  subst hT
  subst hH
  by_cases h0 : bs.length = 0
  · obtain rfl : bs = [] := List.eq_nil_of_length_eq_zero h0
    exact put_none v [] 0 0 how w hv (by simp) (by omega) (by omega) (Nat.le_refl _)
  · refine (put_some v bs 0 bs.length how w hv (by omega) (by omega) (by omega) (by omega) hh).mono ?_
    rintro e w' ⟨v', rfl, h3, h4⟩
    have eb : base how bs bs.length = bs := by unfold base; rw [grow_same]; split <;> rfl
    rw [eb, Nat.min_self, Nat.sub_zero] at h3
    rw [put_len]
    exact ⟨v', rfl, h3, h4⟩

theorem put_over (how : Nat) (bs : List Bool) (j : Nat) (hj : j < bs.length) : (put how bs 0 bs.length).getD j false = putAt how bs j := by
  rw [put_get _ _ _ _ _ (by omega), if_pos ⟨by omega, by omega⟩]

set_option maxRecDepth 100000 in
set_option maxHeartbeats 1000000 in
theorem bsclearall_any (v : Value) (bs : List Bool)  (w : World) (hv : IsBits w v bs) (hn : bs.length ≤ 400)  :
    Calls Try.prog 40 #[v] w fun e w' => ∃ v', e = .returned v' ∧
      OwnBits w.heap.size w' v' (put 0 bs 0 bs.length) ∧ Below w.heap.size w w' := by
  
  have hv0 := hv
  obtain ⟨s, rfl, hs⟩ := hv
  obtain ⟨a, n, cap, rfl, _⟩ := hs
  have hb0 : Below w.heap.size w ((w.alloc (.cells #[.int .u64 (bs.length : Int), .slice a n cap] 25)).alloc (.cells #[.int .u64 0, .slice none 0 0] 25)) :=
    ((Below.refl _ _).alloc (Nat.le_refl _) _).alloc (by simp) _
  have hblk0 := Blk.new (w.alloc (.cells #[.int .u64 (bs.length : Int), .slice a n cap] 25)) 25 #[.int .u64 0, .slice none 0 0]
  rw [World.size_alloc] at hblk0
  have HV := Lib.hid (hv0.below rfl hb0)
  have HB0 := Lib.hid hb0
  have HBK0 := Lib.hid hblk0
  clear hv0 hb0 hblk0
  go_enter Try.func40, Try.ntmps40
  go_wp2_with fail
  refine (set64_any _ bs _ HV.out (by omega)).mono ?_
  rintro e w1 ⟨p, ws, rfl, hbs, hwl, hbit, hb1⟩
  have hz1 := hb1.size
  simp only [World.size_alloc] at hbs hz1
  rw [← hwl] at hbs
  have HBIT := Lib.hid hbit
  have HBS := Lib.hid hbs
  have HWL := Lib.hid hwl
  have hclean : ∀ j, bs.length ≤ j → Bsm.bit ws j = false := fun j hj => by rw [hbit]; exact Bsm.getD_out bs j hj
  have HC := Lib.hid hclean
  clear hbit hbs hwl hclean
  go_wp2_with fail
  refine (clearall_any (w.heap.size + 1 + 1) p bs.length ws _ _ HBS.out (by rw [HWL.out]; omega)).mono ?_
  rintro e w2 ⟨rfl, h1, h4⟩
  have h2 : bs.length ≤ 64 * (Bsm.lay 0 ws ws.length).length := by rw [Bsm.lay_len, HWL.out]; omega
  have h3 : ∀ j, Bsm.bit (Bsm.lay 0 ws ws.length) j = false := fun j => by rw [Bsm.bit_lay]; simp
  obtain ⟨cap', hcap⟩ : ∃ c, c = ws.length := ⟨_, rfl⟩
  rw [← hcap] at h1 h2 h3
  obtain ⟨ws', hws⟩ : ∃ c, c = Bsm.lay 0 ws ws.length := ⟨_, rfl⟩
  rw [← hcap] at hws
  rw [← hws] at h2 h3
  rw [← hws] at h1
  clear hws hcap
  have H3 := Lib.hid h3
  clear h3
  go_wp2_with fail
  refine (said64_any (w.heap.size + 1 + 1) p (bs.length) ws' cap' _ h1 h2 (by omega)).mono ?_
  rintro e w3 ⟨v', rfl, hob, hb3⟩
  have HOB := Lib.hid hob
  obtain ⟨p', m', c', rfl, _⟩ := hob
  have hz2 := h4.size
  have hz3 := hb3.size
  have bk := ((HBK0.out.below hb1 (by simp)).below h4 (by omega)).below hb3 (by omega)
  have q0 : w3.cell? ⟨w.heap.size + 1, 0, none⟩ = some (.int .u64 0) := bk.cell 0 rfl
  have q1 : w3.cell? ⟨w.heap.size + 1, 1, none⟩ = some (.slice none 0 0) := bk.cell 1 rfl
  have y0 := bk.free 0
  have y1 := bk.free 1
  clear bk
  go_wp2_with fail
  refine bodyPost_ret (v := .agg #[.int .u64 ((Bsm.bitsOf ws' (bs.length)).length : Int), .slice p' m' c']) (by simp [results, Try.results40, go_sem, *]) rfl ?_
  have eb : Bsm.bitsOf ws' (bs.length) = put 0 bs 0 bs.length := by
    apply eq_bits
    · rw [put_len]
    · intro j hj
      rw [put_over _ _ _ hj, H3.out, putAt0]
  refine ⟨_, rfl, ?_, (((HB0.out.trans (hb1.mono (by simp; omega))).trans (h4.mono (by omega))).trans (hb3.mono (by omega))).setCell (by simp) _ |>.setCell (by simp) _⟩
  have hfin := ((HOB.out.set (a := ⟨w.heap.size + 1, 0, none⟩) (by simp; omega) (.int .u64 ((Bsm.bitsOf ws' (bs.length)).length : Int))).set (a := ⟨w.heap.size + 1, 1, none⟩) (by simp; omega) (.slice p' m' c')).weaken (B' := w.heap.size) (by omega)
  rw [eb] at hfin ⊢
  exact hfin

set_option maxRecDepth 100000 in
set_option maxHeartbeats 1000000 in
theorem bssetall_any (v : Value) (bs : List Bool)  (w : World) (hv : IsBits w v bs) (hn : bs.length ≤ 400)  :
    Calls Try.prog 41 #[v] w fun e w' => ∃ v', e = .returned v' ∧
      OwnBits w.heap.size w' v' (put 1 bs 0 bs.length) ∧ Below w.heap.size w w' := by
  
  have hv0 := hv
  obtain ⟨s, rfl, hs⟩ := hv
  obtain ⟨a, n, cap, rfl, _⟩ := hs
  have hb0 : Below w.heap.size w ((w.alloc (.cells #[.int .u64 (bs.length : Int), .slice a n cap] 25)).alloc (.cells #[.int .u64 0, .slice none 0 0] 25)) :=
    ((Below.refl _ _).alloc (Nat.le_refl _) _).alloc (by simp) _
  have hblk0 := Blk.new (w.alloc (.cells #[.int .u64 (bs.length : Int), .slice a n cap] 25)) 25 #[.int .u64 0, .slice none 0 0]
  rw [World.size_alloc] at hblk0
  have HV := Lib.hid (hv0.below rfl hb0)
  have HB0 := Lib.hid hb0
  have HBK0 := Lib.hid hblk0
  clear hv0 hb0 hblk0
  go_enter Try.func41, Try.ntmps41
  go_wp2_with fail
  refine (set64_any _ bs _ HV.out (by omega)).mono ?_
  rintro e w1 ⟨p, ws, rfl, hbs, hwl, hbit, hb1⟩
  have hz1 := hb1.size
  simp only [World.size_alloc] at hbs hz1
  rw [← hwl] at hbs
  have HBIT := Lib.hid hbit
  have HBS := Lib.hid hbs
  have HWL := Lib.hid hwl
  have hclean : ∀ j, bs.length ≤ j → Bsm.bit ws j = false := fun j hj => by rw [hbit]; exact Bsm.getD_out bs j hj
  have HC := Lib.hid hclean
  clear hbit hbs hwl hclean
  go_wp2_with fail
  refine (setall_any (w.heap.size + 1 + 1) p bs.length ws _ _ HBS.out HWL.out (by omega)).mono ?_
  rintro e w2 ⟨rfl, ws', h1, h2, h3, h4⟩
  rw [HWL.out] at h2
  replace h2 : bs.length ≤ 64 * ws'.length := by omega
  obtain ⟨cap', hcap⟩ : ∃ c, c = ws.length := ⟨_, rfl⟩
  rw [← hcap] at h1
  clear hcap
  have H3 := Lib.hid h3
  clear h3
  go_wp2_with fail
  refine (said64_any (w.heap.size + 1 + 1) p (bs.length) ws' cap' _ h1 h2 (by omega)).mono ?_
  rintro e w3 ⟨v', rfl, hob, hb3⟩
  have HOB := Lib.hid hob
  obtain ⟨p', m', c', rfl, _⟩ := hob
  have hz2 := h4.size
  have hz3 := hb3.size
  have bk := ((HBK0.out.below hb1 (by simp)).below h4 (by omega)).below hb3 (by omega)
  have q0 : w3.cell? ⟨w.heap.size + 1, 0, none⟩ = some (.int .u64 0) := bk.cell 0 rfl
  have q1 : w3.cell? ⟨w.heap.size + 1, 1, none⟩ = some (.slice none 0 0) := bk.cell 1 rfl
  have y0 := bk.free 0
  have y1 := bk.free 1
  clear bk
  go_wp2_with fail
  refine bodyPost_ret (v := .agg #[.int .u64 ((Bsm.bitsOf ws' (bs.length)).length : Int), .slice p' m' c']) (by simp [results, Try.results41, go_sem, *]) rfl ?_
  have eb : Bsm.bitsOf ws' (bs.length) = put 1 bs 0 bs.length := by
    apply eq_bits
    · rw [put_len]
    · intro j hj
      rw [put_over _ _ _ hj, H3.out, putAt1]; simpa using hj
  refine ⟨_, rfl, ?_, (((HB0.out.trans (hb1.mono (by simp; omega))).trans (h4.mono (by omega))).trans (hb3.mono (by omega))).setCell (by simp) _ |>.setCell (by simp) _⟩
  have hfin := ((HOB.out.set (a := ⟨w.heap.size + 1, 0, none⟩) (by simp; omega) (.int .u64 ((Bsm.bitsOf ws' (bs.length)).length : Int))).set (a := ⟨w.heap.size + 1, 1, none⟩) (by simp; omega) (.slice p' m' c')).weaken (B' := w.heap.size) (by omega)
  rw [eb] at hfin ⊢
  exact hfin

set_option maxRecDepth 100000 in
set_option maxHeartbeats 1000000 in
theorem bscomplement_any (v : Value) (bs : List Bool)  (w : World) (hv : IsBits w v bs) (hn : bs.length ≤ 400)  :
    Calls Try.prog 42 #[v] w fun e w' => ∃ v', e = .returned v' ∧
      OwnBits w.heap.size w' v' (put 2 bs 0 bs.length) ∧ Below w.heap.size w w' := by
  
  have hv0 := hv
  obtain ⟨s, rfl, hs⟩ := hv
  obtain ⟨a, n, cap, rfl, _⟩ := hs
  have hb0 : Below w.heap.size w ((w.alloc (.cells #[.int .u64 (bs.length : Int), .slice a n cap] 25)).alloc (.cells #[.int .u64 0, .slice none 0 0] 25)) :=
    ((Below.refl _ _).alloc (Nat.le_refl _) _).alloc (by simp) _
  have hblk0 := Blk.new (w.alloc (.cells #[.int .u64 (bs.length : Int), .slice a n cap] 25)) 25 #[.int .u64 0, .slice none 0 0]
  rw [World.size_alloc] at hblk0
  have HV := Lib.hid (hv0.below rfl hb0)
  have HB0 := Lib.hid hb0
  have HBK0 := Lib.hid hblk0
  clear hv0 hb0 hblk0
  go_enter Try.func42, Try.ntmps42
  go_wp2_with fail
  refine (set64_any _ bs _ HV.out (by omega)).mono ?_
  rintro e w1 ⟨p, ws, rfl, hbs, hwl, hbit, hb1⟩
  have hz1 := hb1.size
  simp only [World.size_alloc] at hbs hz1
  rw [← hwl] at hbs
  have HBIT := Lib.hid hbit
  have HBS := Lib.hid hbs
  have HWL := Lib.hid hwl
  have hclean : ∀ j, bs.length ≤ j → Bsm.bit ws j = false := fun j hj => by rw [hbit]; exact Bsm.getD_out bs j hj
  have HC := Lib.hid hclean
  clear hbit hbs hwl hclean
  go_wp2_with fail
  refine (complement_any (w.heap.size + 1 + 1) p bs.length ws _ _ HBS.out HWL.out (by omega)).mono ?_
  rintro e w2 ⟨r, ws', rfl, h0, h2, h3, hb2⟩
  have h4 : Below (w.heap.size + 1 + 1) w1 w2 := hb2.mono (by omega)
  have h1 := h0.weaken (B' := w.heap.size + 1 + 1) (by omega)
  obtain ⟨p, rfl⟩ : ∃ p', p' = r := ⟨_, rfl⟩
  replace h2 : bs.length ≤ 64 * ws'.length := by omega
  obtain ⟨cap', hcap⟩ : ∃ c, c = (bs.length + 63) / 64 := ⟨_, rfl⟩
  rw [← hcap] at h1
  clear hcap hb2 h0
  have H3 := Lib.hid h3
  clear h3
  go_wp2_with fail
  refine (said64_any (w.heap.size + 1 + 1) p (bs.length) ws' cap' _ h1 h2 (by omega)).mono ?_
  rintro e w3 ⟨v', rfl, hob, hb3⟩
  have HOB := Lib.hid hob
  obtain ⟨p', m', c', rfl, _⟩ := hob
  have hz2 := h4.size
  have hz3 := hb3.size
  have bk := ((HBK0.out.below hb1 (by simp)).below h4 (by omega)).below hb3 (by omega)
  have q0 : w3.cell? ⟨w.heap.size + 1, 0, none⟩ = some (.int .u64 0) := bk.cell 0 rfl
  have q1 : w3.cell? ⟨w.heap.size + 1, 1, none⟩ = some (.slice none 0 0) := bk.cell 1 rfl
  have y0 := bk.free 0
  have y1 := bk.free 1
  clear bk
  go_wp2_with fail
  refine bodyPost_ret (v := .agg #[.int .u64 ((Bsm.bitsOf ws' (bs.length)).length : Int), .slice p' m' c']) (by simp [results, Try.results42, go_sem, *]) rfl ?_
  have eb : Bsm.bitsOf ws' (bs.length) = put 2 bs 0 bs.length := by
    apply eq_bits
    · rw [put_len]
    · intro j hj
      rw [put_over _ _ _ hj, H3.out, HBIT.out, putAt2]; simp [hj]
  refine ⟨_, rfl, ?_, (((HB0.out.trans (hb1.mono (by simp; omega))).trans (h4.mono (by omega))).trans (hb3.mono (by omega))).setCell (by simp) _ |>.setCell (by simp) _⟩
  have hfin := ((HOB.out.set (a := ⟨w.heap.size + 1, 0, none⟩) (by simp; omega) (.int .u64 ((Bsm.bitsOf ws' (bs.length)).length : Int))).set (a := ⟨w.heap.size + 1, 1, none⟩) (by simp; omega) (.slice p' m' c')).weaken (B' := w.heap.size) (by omega)
  rw [eb] at hfin ⊢
  exact hfin

set_option maxRecDepth 100000 in
set_option maxHeartbeats 1000000 in
theorem bsclone_any (v : Value) (bs : List Bool)  (w : World) (hv : IsBits w v bs) (hn : bs.length ≤ 400)  :
    Calls Try.prog 43 #[v] w fun e w' => ∃ v', e = .returned v' ∧
      OwnBits w.heap.size w' v' (bs) ∧ Below w.heap.size w w' := by
  
  have hv0 := hv
  obtain ⟨s, rfl, hs⟩ := hv
  obtain ⟨a, n, cap, rfl, _⟩ := hs
  have hb0 : Below w.heap.size w ((w.alloc (.cells #[.int .u64 (bs.length : Int), .slice a n cap] 25)).alloc (.cells #[.int .u64 0, .slice none 0 0] 25)) :=
    ((Below.refl _ _).alloc (Nat.le_refl _) _).alloc (by simp) _
  have hblk0 := Blk.new (w.alloc (.cells #[.int .u64 (bs.length : Int), .slice a n cap] 25)) 25 #[.int .u64 0, .slice none 0 0]
  rw [World.size_alloc] at hblk0
  have HV := Lib.hid (hv0.below rfl hb0)
  have HB0 := Lib.hid hb0
  have HBK0 := Lib.hid hblk0
  clear hv0 hb0 hblk0
  go_enter Try.func43, Try.ntmps43
  go_wp2_with fail
  refine (set64_any _ bs _ HV.out (by omega)).mono ?_
  rintro e w1 ⟨p, ws, rfl, hbs, hwl, hbit, hb1⟩
  have hz1 := hb1.size
  simp only [World.size_alloc] at hbs hz1
  rw [← hwl] at hbs
  have HBIT := Lib.hid hbit
  have HBS := Lib.hid hbs
  have HWL := Lib.hid hwl
  have hclean : ∀ j, bs.length ≤ j → Bsm.bit ws j = false := fun j hj => by rw [hbit]; exact Bsm.getD_out bs j hj
  have HC := Lib.hid hclean
  clear hbit hbs hwl hclean
  go_wp2_with fail
  refine (clone_any (w.heap.size + 1 + 1) p bs.length ws _ _ HBS.out HWL.out (by omega)).mono ?_
  rintro e w2 ⟨r, rfl, h0, hb2⟩
  have h4 : Below (w.heap.size + 1 + 1) w1 w2 := hb2.mono (by omega)
  have h1 := h0.weaken (B' := w.heap.size + 1 + 1) (by omega)
  have h2 := HWL.out
  have h3 := HBIT.out
  obtain ⟨p, rfl⟩ : ∃ p', p' = r := ⟨_, rfl⟩
  obtain ⟨ws', rfl⟩ : ∃ p', p' = ws := ⟨_, rfl⟩
  replace h2 : bs.length ≤ 64 * ws'.length := by omega
  obtain ⟨cap', hcap⟩ : ∃ c, c = (bs.length + 63) / 64 := ⟨_, rfl⟩
  rw [← hcap] at h1
  clear hcap hb2 h0
  have H3 := Lib.hid h3
  clear h3
  go_wp2_with fail
  refine (said64_any (w.heap.size + 1 + 1) p (bs.length) ws' cap' _ h1 h2 (by omega)).mono ?_
  rintro e w3 ⟨v', rfl, hob, hb3⟩
  have HOB := Lib.hid hob
  obtain ⟨p', m', c', rfl, _⟩ := hob
  have hz2 := h4.size
  have hz3 := hb3.size
  have bk := ((HBK0.out.below hb1 (by simp)).below h4 (by omega)).below hb3 (by omega)
  have q0 : w3.cell? ⟨w.heap.size + 1, 0, none⟩ = some (.int .u64 0) := bk.cell 0 rfl
  have q1 : w3.cell? ⟨w.heap.size + 1, 1, none⟩ = some (.slice none 0 0) := bk.cell 1 rfl
  have y0 := bk.free 0
  have y1 := bk.free 1
  clear bk
  go_wp2_with fail
  refine bodyPost_ret (v := .agg #[.int .u64 ((Bsm.bitsOf ws' (bs.length)).length : Int), .slice p' m' c']) (by simp [results, Try.results43, go_sem, *]) rfl ?_
  have eb : Bsm.bitsOf ws' (bs.length) = bs := by
    apply eq_bits
    · rfl
    · intro j hj
      rw [H3.out]
  refine ⟨_, rfl, ?_, (((HB0.out.trans (hb1.mono (by simp; omega))).trans (h4.mono (by omega))).trans (hb3.mono (by omega))).setCell (by simp) _ |>.setCell (by simp) _⟩
  have hfin := ((HOB.out.set (a := ⟨w.heap.size + 1, 0, none⟩) (by simp; omega) (.int .u64 ((Bsm.bitsOf ws' (bs.length)).length : Int))).set (a := ⟨w.heap.size + 1, 1, none⟩) (by simp; omega) (.slice p' m' c')).weaken (B' := w.heap.size) (by omega)
  rw [eb] at hfin ⊢
  exact hfin
end Go.Proofs.Ytbgmkojiklphmaa
