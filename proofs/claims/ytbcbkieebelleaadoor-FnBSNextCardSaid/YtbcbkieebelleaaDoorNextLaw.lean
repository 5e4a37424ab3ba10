/- The walks of impl.BSNextSet, impl.BSNextClear and of the law FnBSNext: it returns true at every input. -/
import Derived.Test.YtbcbkieebelleaaDoorNextClear
namespace Go.Proofs.YtbcbkieebelleaaDoor
set_option linter.unusedVariables false
open Go.RowKit

theorem IsNext.shrink {f : Nat → Bool} {L M i : Nat} {r : Option Nat} (h : IsNext f M i r) (hLM : L ≤ M) (hf : ∀ j, L ≤ j → f j = false) : IsNext f L i r := by
  cases r with
  | none => exact fun q h1 h2 => h q h1 (by omega)
  | some j =>
    obtain ⟨h1, h2, h3, h4⟩ := h
    refine ⟨h1, ?_, h3, h4⟩
    rcases Nat.lt_or_ge j L with hj | hj
    · exact hj
    · rw [hf j hj] at h3; cases h3

def NextOf (bs : List Bool) (is : Bool) (i : Nat) (w : World) (e : Ending) (w' : World) : Prop := ∃ r, e = .returned (nextv r) ∧ IsNext (fun j => bs.getD j false == is) bs.length i r ∧ Below w.heap.size w w'

set_option maxHeartbeats 400000 in
theorem bsnextset_any (v : Value) (bs : List Bool) (i : Nat) (w : World) (hv : IsBits w v bs) (hn : bs.length ≤ 400) (hi : i ≤ 10000) (hT : Tab w) :
    Calls Tryd.prog 10 #[v, .int .u64 (i : Int)] w (NextOf bs true i w) := by
  have hv0 := hv
  obtain ⟨s, rfl, hs⟩ := hv
  obtain ⟨a, n, cap, rfl, _⟩ := hs
  have hb0 : Below w.heap.size w (w.alloc (.cells #[.int .u64 (bs.length : Int), .slice a n cap] 25)) := (Below.refl _ _).alloc (Nat.le_refl _) _
  have HV := Lib.hid (hv0.below rfl hb0)
  have HB0 := Lib.hid hb0
  have HT := Lib.hid (hT.below hb0 hT.lt)
  have HTL := Lib.hid hT.lt
  clear hv0 hb0 hT
  go_enter Tryd.func10, Tryd.ntmps10
  go_wp2_with fail
  refine (set64_any _ bs _ HV.out (by omega)).mono ?_
  rintro e w1 ⟨p, ws, rfl, hbs, hwl, hbit, hb1⟩
  rw [← hwl] at hbs
  have HBIT := Lib.hid hbit
  have HBS := Lib.hid hbs
  have HWL := Lib.hid hwl
  have hs1 := hb1.size
  rw [World.size_alloc] at hs1
  have HT1 := Lib.hid (HT.out.below hb1 (by simp))
  have HBT := Lib.hid (HB0.out.trans (hb1.mono (by simp)))
  clear hbit hbs hwl
  go_wp2_with fail
  refine (nextset_any _ p bs.length i ws _ HBS.out (by rw [HWL.out]; omega) (by omega) HT1.out).mono ?_
  rintro e w2 ⟨r, rfl, hr, nq, rfl⟩
  have HR : Hid (IsNext (fun j => bs.getD j false == true) bs.length i r) := by
    have h := hr.congr (g := fun j => bs.getD j false == true) (fun j _ _ => by rw [HBIT.out]; simp)
    exact h.shrink (by rw [HWL.out]; omega) (fun j hj => by show (bs.getD j false == true) = false; rw [Bsm.getD_out bs j hj]; rfl)
  clear hr
  cases r with
  | none =>
    simp only [nextv]
    go_wp2_with fail
    go_ret2
    exact ⟨none, rfl, HR.out, below_drewN HBT.out _⟩
  | some j =>
    simp only [nextv]
    go_wp2_with fail
    go_ret2
    exact ⟨some j, rfl, HR.out, below_drewN HBT.out _⟩

set_option maxHeartbeats 400000 in
theorem bsnextclear_any (v : Value) (bs : List Bool) (i : Nat) (w : World) (hv : IsBits w v bs) (hn : bs.length ≤ 400) (hi : i ≤ 10000) (hT : Tab w) :
    Calls Tryd.prog 11 #[v, .int .u64 (i : Int)] w (NextOf bs false i w) := by
  have hv0 := hv
  obtain ⟨s, rfl, hs⟩ := hv
  obtain ⟨a, n, cap, rfl, _⟩ := hs
  have hb0 : Below w.heap.size w (w.alloc (.cells #[.int .u64 (bs.length : Int), .slice a n cap] 25)) := (Below.refl _ _).alloc (Nat.le_refl _) _
  have HV := Lib.hid (hv0.below rfl hb0)
  have HB0 := Lib.hid hb0
  have HT := Lib.hid (hT.below hb0 hT.lt)
  have HTL := Lib.hid hT.lt
  clear hv0 hb0 hT
  go_enter Tryd.func11, Tryd.ntmps11
  go_wp2_with fail
  refine (set64_any _ bs _ HV.out (by omega)).mono ?_
  rintro e w1 ⟨p, ws, rfl, hbs, hwl, hbit, hb1⟩
  rw [← hwl] at hbs
  have HBIT := Lib.hid hbit
  have HBS := Lib.hid hbs
  have HWL := Lib.hid hwl
  have hs1 := hb1.size
  rw [World.size_alloc] at hs1
  have HT1 := Lib.hid (HT.out.below hb1 (by simp))
  have HBT := Lib.hid (HB0.out.trans (hb1.mono (by simp)))
  clear hbit hbs hwl
  go_wp2_with fail
  refine (nextclear_any _ p bs.length i ws _ HBS.out HWL.out (by omega) (by omega) HT1.out).mono ?_
  rintro e w2 ⟨r, rfl, hr, rfl⟩
  have HR : Hid (IsNext (fun j => bs.getD j false == false) bs.length i r) := hr.congr (fun j _ _ => by rw [HBIT.out]; cases bs.getD j false <;> rfl)
  clear hr
  cases r with
  | none =>
    simp only [nextv]
    go_wp2_with fail
    go_ret2
    exact ⟨none, rfl, HR.out, HBT.out⟩
  | some j =>
    simp only [nextv]
    go_wp2_with fail
    go_ret2
    exact ⟨some j, rfl, HR.out, HBT.out⟩

set_option maxRecDepth 100000 in
set_option maxHeartbeats 4000000 in
theorem law_bsnext (v : Value) (x : Int) (w : World) (hv : AnyBits w v) (hx : (Lit.int .u16 x).wf = true) (hT : Tab w) :
    Calls Tryd.prog 4 #[v, .int .u16 x] w fun e w' => e = .returned (.bool true) ∧ Below w.heap.size w w' := by
  have hX : 0 ≤ x ∧ x ≤ 65535 := by simp [Lit.wf, IntKind.min, IntKind.max, IntKind.signed, IntKind.bits] at hx; omega
  obtain ⟨y, rfl⟩ := Int.eq_ofNat_of_zero_le hX.1
  obtain ⟨i, hi⟩ : ∃ i : Nat, y % 500 = i := ⟨_, rfl⟩
  have hxi : (y : Int) % 500 = (i : Int) := by omega
  have hi5 : i < 500 := by omega
  have hX2 := hX.2
  have HV0 := hv
  obtain ⟨L, s, xs, rfl, hL, hs, hx2⟩ := hv
  obtain ⟨a, m, cap, rfl, hl, hc, hm, hr⟩ := hs
  have hmm : m ≤ maxLen := by omega
  have HV := Lib.hid HV0
  have hb0 : Below w.heap.size w (w.alloc (.cells #[.int .u64 (L : Int), .slice a m cap] 25)) := (Below.refl _ _).alloc (Nat.le_refl _) _
  have HB0 := Lib.hid hb0
  have HT := Lib.hid (hT.below hb0 hT.lt)
  have HTL := Lib.hid hT.lt
  clear HV0 hL hx2 hl hc hm hr hb0 hT hX hx hi
  by_cases hf : (m : Int) ≤ 2147483647
  · have HF := Lib.hid (show decide ((m : Int) ≤ 2147483647) = true by simpa using hf)
    clear hf
    go_enter Tryd.func4, Tryd.ntmps4
    go_wp2_with fail
    refine (fits_any _ a m cap _ hmm).mono ?_
    rintro e w1 ⟨rfl, hb1⟩
    rw [HF.out]
    have hz1 := hb1.size
    rw [World.size_alloc] at hz1
    have bk1 := (Blk.new w 25 #[.int .u64 (L : Int), .slice a m cap]).below hb1 (by simp)
    have c0 : w1.cell? ⟨w.heap.size, 0, none⟩ = some (.int .u64 (L : Int)) := bk1.cell 0 rfl
    have c1 : w1.cell? ⟨w.heap.size, 1, none⟩ = some (.slice a m cap) := bk1.cell 1 rfl
    clear bk1
    go_wp2_with fail
    refine (bits_any _ _ ?hb).mono ?_
    case hb => exact (HV.out.below rfl HB0.out).below rfl hb1
    rintro e w2 ⟨va, bs, rfl, hbl, hob, hb2⟩
    have HOB := Lib.hid hob
    obtain ⟨p1, m1, k1, rfl, _⟩ := hob
    have hz2 := hb2.size
    have HT2 := Lib.hid ((HT.out.below hb1 (by simp)).below hb2 (by have := HTL.out; omega))
    have HB2 : Hid (Below w.heap.size w w2) := (HB0.out.trans (hb1.mono (by simp))).trans (hb2.mono (by omega))
    have hbA : Below w2.heap.size w2 (w2.alloc (.cells #[.int .u64 (bs.length : Int), .slice p1 m1 k1] 25)) := (Below.refl _ _).alloc (Nat.le_refl _) _
    have HIA := Lib.hid (HOB.out.is.below rfl hbA)
    have HBK := Lib.hid (Blk.new w2 25 #[.int .u64 (bs.length : Int), .slice p1 m1 k1])
    have HT3 := Lib.hid (HT2.out.below hbA HT2.out.lt)
    have HBA := Lib.hid hbA
    have hz3 : w.heap.size < w2.heap.size := by omega
    clear hb1 hb2 c0 c1 hz1 hz2 HV HB0 HF hmm hbA HT HT2
    go_wp2_with fail
    refine (bools_any _ bs _ HIA.out (by omega)).mono ?_
    rintro e w3 ⟨vb, rfl, hown, hb3⟩
    have HSB := Lib.hid (Sl.of_owns hown)
    have HIA3 := Lib.hid (HIA.out.below rfl hb3)
    have HT4 := Lib.hid (HT3.out.below hb3 HT3.out.lt)
    have HB3 := Lib.hid (HB2.out.trans (((HBA.out.trans (hb3.mono (by simp)))).mono (by omega)))
    have bk3 := HBK.out.below hb3 (by simp)
    have c0 : w3.cell? ⟨w2.heap.size, 0, none⟩ = some (.int .u64 (bs.length : Int)) := bk3.cell 0 rfl
    have c1 : w3.cell? ⟨w2.heap.size, 1, none⟩ = some (.slice p1 m1 k1) := bk3.cell 1 rfl
    have hz4 : w2.heap.size < w3.heap.size := by have := hb3.size; rw [World.size_alloc] at this; omega
    clear hown hb3 bk3 HIA HT3 HB2 HBA HBK
    go_wp2_with fail
    refine (bsnextset_any _ bs i _ HIA3.out hbl (by omega) HT4.out).mono ?_
    rintro e w4 ⟨r, rfl, hr, hb4⟩
    have HR := Lib.hid hr
    have HIA4 := Lib.hid (HIA3.out.below rfl hb4)
    have HSB4 := Lib.hid (HSB.out.below rfl hb4)
    have HT5 := Lib.hid (HT4.out.below hb4 HT4.out.lt)
    have HB4 := Lib.hid (HB3.out.trans (hb4.mono (by omega)))
    have d0 := (hb4.cell (p := ⟨w2.heap.size, 0, none⟩) hz4).trans c0
    have d1 := (hb4.cell (p := ⟨w2.heap.size, 1, none⟩) hz4).trans c1
    have hz5 : w2.heap.size < w4.heap.size := by have := hb4.size; omega
    clear hr hb4 c0 c1
    cases r
    all_goals
      simp only [nextv]
      go_wp2_with fail
      refine (bsnextclear_any _ bs i _ HIA4.out hbl (by omega) HT5.out).mono ?_
      rintro e w5 ⟨r2, rfl, hr2, hb5⟩
      have HR2 := Lib.hid hr2
      have HSB5 := Lib.hid (HSB4.out.below rfl hb5)
      have HB5 := Lib.hid (HB4.out.trans (hb5.mono (by omega)))
      clear hr2 hb5 d0 d1
      cases r2
      all_goals
        simp only [nextv]
        go_wp2_with fail
        refine (specnext_any _ bs i true _ HSB5.out (by omega) (by omega)).mono ?_
        rintro e w6 ⟨s1, rfl, hs1, rfl⟩
        obtain rfl := IsNext.one HR.out hs1
        clear hs1
        simp only [nextv]
        go_wp2_with fail
        refine (specnext_any _ bs i false _ HSB5.out (by omega) (by omega)).mono ?_
        rintro e w6 ⟨s2, rfl, hs2, rfl⟩
        obtain rfl := IsNext.one HR2.out hs2
        clear hs2
        simp only [nextv]
        go_wp2_with fail
        go_ret
        exact ⟨rfl, HB5.out⟩
  · have HF := Lib.hid (show decide ((m : Int) ≤ 2147483647) = false by simpa using hf)
    clear hf
    go_enter Tryd.func4, Tryd.ntmps4
    go_wp2_with fail
    refine (fits_any _ a m cap _ hmm).mono ?_
    rintro e w1 ⟨rfl, hb1⟩
    rw [HF.out]
    go_wp2_with fail
    go_ret
    exact ⟨rfl, HB0.out.trans (hb1.mono (by simp))⟩
end Go.Proofs.YtbcbkieebelleaaDoor
