/- The walk of impl.BSFlip, and of the law FnBSFlip: it returns true at every input. -/
import Derived.Test.YtbgmkojiklphmaaBsGrow
import Derived.Lib.SmallJoins
namespace Go.Proofs.Ytbgmkojiklphmaa
set_option linter.unusedVariables false
open Go.RowKit

/-- an argument of type impl.Bits opens -/
theorem open_bits {H : Type} {enc : TypeId × Value → H} {W : World} {v : Value} {d : DataW H} {p : List MemPlace} {r : Reach} {b0 : Nat}
    (hv : Value.okWide Try.prog W r b0 25 v) (h : DataW.Trod enc Try.prog W 0 (fun _ => true) true 25 v d p) : AnyBits W v := by
  obtain ⟨c0, c1, y0, y1, m, rfl, rfl, rfl, hy0, hy1⟩ := Joins.open_agg2 Try.underlying25 (by kernel_rfl) (by kernel_rfl) hv h
  obtain ⟨x, e0, e1, wx⟩ := DataW.trod_int Try.underlying22 hy0
  simp at e0
  subst e0
  have hb : 0 ≤ x ∧ x ≤ 18446744073709551615 := by
    simp [Lit.wf, IntKind.min, IntKind.max, IntKind.signed, IntKind.bits] at wx
    omega
  obtain ⟨L, rfl⟩ := Int.eq_ofNat_of_zero_le hb.1
  obtain ⟨a, l, c, e⟩ := Joins.slice_form Try.underlying23 hy1
  simp at e
  subst e
  obtain ⟨xs, hsl, hwf⟩ := ints_of_trod Try.underlying23 Try.underlying22 (by kernel_rfl) hy1
  have hx : ∃ l : List Nat, xs.map (Value.int .u64) = u64s l ∧ ∀ x ∈ l, x < 18446744073709551616 := by
    clear hsl
    induction xs with
    | nil => exact ⟨[], rfl, by simp⟩
    | cons z zs ih =>
      obtain ⟨l, hl, hl2⟩ := ih (fun n hn => hwf n (List.mem_cons_of_mem _ hn))
      have hz := hwf z (List.mem_cons_self ..)
      have hb : 0 ≤ z ∧ z ≤ 18446744073709551615 := by
        simp [Lit.wf, IntKind.min, IntKind.max, IntKind.signed, IntKind.bits] at hz
        omega
      obtain ⟨Z, rfl⟩ := Int.eq_ofNat_of_zero_le hb.1
      refine ⟨Z :: l, by rw [List.map_cons, hl]; rfl, fun x hx => ?_⟩
      rcases List.mem_cons.1 hx with rfl | h
      · omega
      · exact hl2 x h
  obtain ⟨l, hl, hl2⟩ := hx
  rw [hl] at hsl
  exact ⟨L, _, l, rfl, by omega, hsl, hl2⟩

/-- BSPut at one place that is turned or set -/
theorem put_at (v : Value) (bs : List Bool) (i how : Nat) (I T H : Int) (hI : I = i) (hT : T = I + 1) (hH : H = how) (w : World) (hv : Sl w v (bools bs)) (hn : bs.length ≤ 10000) (hi : i ≤ 10000) (h1 : 1 ≤ how) (h2 : how ≤ 2) :
    Calls Try.prog 21 #[v, .int .i64 I, .int .i64 T, .int .i64 H] w
      fun e w' => ∃ v', e = .returned v' ∧ w'.ownsRow w.heap.size 4 1 v' (put how (Bsm.grow bs (i + 1)) i 1).length (bools (put how (Bsm.grow bs (i + 1)) i 1)) ∧ Below w.heap.size w w' := by
  subst hI
  have eT : T = ((i + 1 : Nat) : Int) := by omega
  subst eT
  subst hH
  refine (put_some v bs i (i + 1) how w hv (by omega) (by omega) (by omega) (by omega) h2).mono ?_
  rintro e w' ⟨v', rfl, h3, h4⟩
  have eb : base how bs (i + 1) = Bsm.grow bs (i + 1) := by unfold base; rw [if_neg (by omega)]
  have el : min (i + 1) (Bsm.grow bs (i + 1)).length - i = 1 := by rw [Bsm.grow_len]; omega
  rw [eb, el] at h3
  rw [put_len]
  exact ⟨v', rfl, h3, h4⟩

theorem put_get (how : Nat) (b : List Bool) (f k j : Nat) (hk : f + k ≤ b.length) : (put how b f k).getD j false = if f ≤ j ∧ j < f + k then putAt how b j else b.getD j false := by
  induction k with
  | zero => simp [put]; omega
  | succ k ih =>
    have ih' := ih (by omega)
    simp only [put, List.getD_eq_getElem?_getD] at ih' ⊢
    by_cases e : f + k = j
    · subst e
      rw [List.getElem?_set_self (by rw [put_len]; omega), if_pos (by omega)]
      rfl
    · rw [List.getElem?_set_ne e, ih']
      by_cases h : f ≤ j ∧ j < f + k
      · rw [if_pos h, if_pos (by omega)]
      · rw [if_neg h, if_neg (by omega)]

theorem eq_bits (ws : List Nat) (L : Nat) (b : List Bool) (hl : b.length = L) (h : ∀ j, j < L → Bsm.bit ws j = b.getD j false) : Bsm.bitsOf ws L = b := by
  apply Bsm.ext_getD
  · rw [Bsm.bitsOf_len, hl]
  · intro j hj
    rw [Bsm.bitsOf_len] at hj
    rw [Bsm.bitsOf_get]
    simp [hj, h j hj]


set_option maxRecDepth 100000 in
set_option maxHeartbeats 1000000 in
theorem bsflip_any (v : Value) (bs : List Bool) (i : Nat) (I : Int) (hI : I = i) (w : World) (hv : IsBits w v bs) (hn : bs.length ≤ 400) (hi : i < 1000) :
    Calls Try.prog 19 #[v, .int .u64 I] w fun e w' => ∃ v', e = .returned v' ∧
      OwnBits w.heap.size w' v' (put 2 (Bsm.grow bs (i + 1)) i 1) ∧ Below w.heap.size w w' := by
  subst hI
  have hv0 := hv
  obtain ⟨s, rfl, hs⟩ := hv
  obtain ⟨a, n, cap, rfl, _⟩ := hs
  have hb0 : Below w.heap.size w ((w.alloc (.cells #[.int .u64 (bs.length : Int), .slice a n cap] 25)).alloc (.cells #[.int .u64 0, .slice none 0 0] 25)) :=
    ((Below.refl _ _).alloc (Nat.le_refl _) _).alloc (by simp) _
  have hblk0 := Blk.new (w.alloc (.cells #[.int .u64 (bs.length : Int), .slice a n cap] 25)) 25 #[.int .u64 0, .slice none 0 0]
  rw [World.size_alloc] at hblk0
  have HV := Lib.hid (hv0.below rfl hb0)
  have HB0 := Lib.hid hb0
  have HBK0 := Lib.hid hblk0
  clear hv0 hb0 hblk0
  go_enter Try.func19, Try.ntmps19
  go_wp2_with fail
  refine (set64_any _ bs _ HV.out (by omega)).mono ?_
  rintro e w1 ⟨p, ws, rfl, hbs, hwl, hbit, hb1⟩
  have hz1 := hb1.size
  simp only [World.size_alloc] at hbs hz1
  rw [← hwl] at hbs
  have HBIT := Lib.hid hbit
  have HBS := Lib.hid hbs
  have HWL := Lib.hid hwl
  have hclean : ∀ j, bs.length ≤ j → Bsm.bit ws j = false := fun j hj => by rw [hbit]; exact Bsm.getD_out bs j hj
  have HC := Lib.hid hclean
  clear hbit hbs hwl hclean
  go_wp2_with fail
  refine (flip_any (w.heap.size + 1 + 1) p bs.length i ws _ HBS.out HWL.out (by omega) (by omega) (by omega) HC.out).mono ?_
  rintro e w2 ⟨rfl, ws', cap', h1, h2, h3, h4⟩
  have H3 := Lib.hid h3
  clear h3
  go_wp2_with fail
  refine (said64_any (w.heap.size + 1 + 1) p (max bs.length (i + 1)) ws' cap' _ h1 h2 (by omega)).mono ?_
  rintro e w3 ⟨v', rfl, hob, hb3⟩
  have HOB := Lib.hid hob
  obtain ⟨p', m', c', rfl, _⟩ := hob
  have hz2 := h4.size
  have hz3 := hb3.size
  have bk := ((HBK0.out.below hb1 (by simp)).below h4 (by omega)).below hb3 (by omega)
  have q0 : w3.cell? ⟨w.heap.size + 1, 0, none⟩ = some (.int .u64 0) := bk.cell 0 rfl
  have q1 : w3.cell? ⟨w.heap.size + 1, 1, none⟩ = some (.slice none 0 0) := bk.cell 1 rfl
  have y0 := bk.free 0
  have y1 := bk.free 1
  clear bk
  go_wp2_with fail
  refine bodyPost_ret (v := .agg #[.int .u64 ((Bsm.bitsOf ws' (max bs.length (i + 1))).length : Int), .slice p' m' c']) (by simp [results, Try.results19, go_sem, *]) rfl ?_
  have eb : Bsm.bitsOf ws' (max bs.length (i + 1)) = put 2 (Bsm.grow bs (i + 1)) i 1 := by
    apply eq_bits
    · rw [put_len, Bsm.grow_len]
    · intro j hj
      rw [put_get _ _ _ _ _ (by rw [Bsm.grow_len]; omega), H3.out, HBIT.out, putAt2, Bsm.grow_get]
      by_cases e : j = i
      · subst e; simp
      · rw [if_neg (by omega)]; simp [e]
  refine ⟨_, rfl, ?_, (((HB0.out.trans (hb1.mono (by simp; omega))).trans (h4.mono (by omega))).trans (hb3.mono (by omega))).setCell (by simp) _ |>.setCell (by simp) _⟩
  rw [← eb]
  exact ((HOB.out.set (by simp; omega) _).set (by simp; omega) _).weaken (by omega)
end Go.Proofs.Ytbgmkojiklphmaa
