/- The walk of the law FnBSShiftRight: it returns true at every input. -/
import Derived.Test.YtbgmkojiklphmaaBsShrImpl
import Derived.Test.YtbgmkojiklphmaaBsIn
import Derived.Deep.RegionHeld3
import Derived.Outline
namespace Go.Proofs.Ytbgmkojiklphmaa
set_option linter.unusedVariables false
open Go.RowKit

set_option maxRecDepth 100000 in
set_option maxHeartbeats 2000000 in
theorem law_bsshr (v : Value) (at_ : Int) (w : World) (hv : AnyBits w v) (ha : 0 ≤ at_) (ha2 : at_ ≤ 65535) :
    Calls Try.prog 12 #[v, .int .u16 at_] w fun e w' => e = .returned (.bool true) ∧ Below w.heap.size w w' := by
  have HV0 := hv
  obtain ⟨L, s, xs, rfl, hL, hs, hx⟩ := hv
  obtain ⟨a, m, cap, rfl, hl, hc, hm, hr⟩ := hs
  have hmm : m ≤ maxLen := by omega
  have HV := Lib.hid HV0
  clear HV0 hL hx hl hc hm hr
  have hb0 : Below w.heap.size w (w.alloc (.cells #[.int .u64 (L : Int), .slice a m cap] 25)) := (Below.refl _ _).alloc (Nat.le_refl _) _
  have HB0 := Lib.hid hb0
  clear hb0
  obtain ⟨i, hi⟩ : ∃ i : Nat, at_ % 301 = (i : Int) := ⟨(at_ % 301).toNat, by omega⟩
  have hi2 : i < 301 := by omega
  by_cases hf : (m : Int) ≤ 2147483647
  · have HF := Lib.hid (show decide ((m : Int) ≤ 2147483647) = true by simpa using hf)
    clear hf
    go_enter Try.func12, Try.ntmps12
    go_wp2_with fail
    refine (fits_any _ a m cap _ hmm).mono ?_
    rintro e w1 ⟨rfl, hb1⟩
    rw [HF.out]
    have hz1 := hb1.size
    rw [World.size_alloc] at hz1
    have bk1 := (Blk.new w 25 #[.int .u64 (L : Int), .slice a m cap]).below hb1 (by simp)
    have c0 : w1.cell? ⟨w.heap.size, 0, none⟩ = some (.int .u64 (L : Int)) := bk1.cell 0 rfl
    have c1 : w1.cell? ⟨w.heap.size, 1, none⟩ = some (.slice a m cap) := bk1.cell 1 rfl
    clear bk1
    go_wp2_with fail
    refine (bits_any _ _ ?hb).mono ?_
    case hb => exact (HV.out.below rfl HB0.out).below rfl (hb1.trans (by repeat (first | exact Below.refl _ _ | refine Below.alloc ?_ (by simp; omega) _)))
    rintro e w2 ⟨va, bs, rfl, hbl, hob, hb2⟩
    have HOB := Lib.hid hob
    obtain ⟨p1, m1, k1, rfl, _⟩ := hob
    have hz2 := hb2.size
    have HT : Hid (Below w.heap.size w w2 ∧ w.heap.size ≤ w2.heap.size) := ⟨(HB0.out.trans (hb1.mono (by simp))).trans (hb2.mono (by simp at *; omega)), by have := hb2.size; simp at *; omega⟩
    clear hb1 hb2 c0 c1 hz1 hz2
    have hbA : Below w2.heap.size w2 (w2.alloc (.cells #[.int .u64 (bs.length : Int), .slice p1 m1 k1] 25)).drew := ((Below.refl _ _).alloc (Nat.le_refl _) _).drew
    have HIA := Lib.hid (HOB.out.is.below rfl hbA)
    have HBA := Lib.hid hbA
    clear hbA
    have e1w : IntKind.u64.wrap (i : Int) = (i : Int) := by rw [IntKind.wrap_u64]; omega
    have e2w : IntKind.i64.wrap (-(i : Int)) = -(i : Int) := by rw [IntKind.wrap_i64]; omega
    go_wp2_with fail
    go_region_held3 (fun w' => w'.cell? ⟨w2.heap.size, 0, none⟩ = some (.int .u64 (bs.length : Int)) ∧ w'.cell? ⟨w2.heap.size, 1, none⟩ = some (.slice p1 m1 k1))
      ((first | go_keep | exact ⟨by assumption, by assumption⟩ | assumption))
      ((first
        | (go_at_call 44; refine Calls.mono (bsshr_any _ bs i _ rfl _ HIA.out hbl (by omega)) ?_; rintro e w3 ⟨vf, cs, rfl, hob3, hpos, hcl, hb3⟩; have HO3 := Lib.hid hob3; have HPOS := Lib.hid hpos; obtain ⟨hc3, hf3⟩ := bcell hb3; have hz3 : w2.heap.size < w3.heap.size := by have := hb3.size; simp at this; omega)
        | (go_at_call 22; refine Calls.mono (bools_any _ bs _ (HIA.out.below rfl hb3) (by omega)) ?_; rintro e w4 ⟨vb, rfl, hown4, hb4⟩; have HW4 := Lib.hid (Sl.of_owns hown4); obtain ⟨hc4, hf4⟩ := bcell hb4; have hz4 : w2.heap.size < w4.heap.size := Nat.lt_of_lt_of_le hz3 hb4.size)
        | (go_at_call 45; refine Calls.mono (shspec_any _ bs i _ rfl _ HW4.out (by omega) (by omega)) ?_; rintro e w5 ⟨vp, rfl, hown5, hb5⟩; have HW5 := Lib.hid (Sl.of_owns hown5); obtain ⟨hc5, hf5⟩ := bcell hb5; have hz5 : w2.heap.size < w5.heap.size := Nat.lt_of_lt_of_le hz4 hb5.size)
        | (go_at_call 29; refine Calls.mono (in_yes _ _ cs _ ((HO3.out.is.below rfl hb4).below rfl hb5) ?_ hcl) ?_; (rw [HPOS.out]; exact HW5.out); rintro e w6 ⟨rfl, hb6⟩; obtain ⟨hc6, hf6⟩ := bcell hb6; have hz6 : w2.heap.size < w6.heap.size := Nat.lt_of_lt_of_le hz5 hb6.size)))
    go_wp2_with fail
    go_ret
    exact ⟨rfl, HT.out.1.trans (((((HBA.out.trans (hb3.mono (by simp))).trans (hb4.mono (by omega))).trans (hb5.mono (by omega))).trans (hb6.mono (by omega))).mono HT.out.2)⟩
  · have HF := Lib.hid (show decide ((m : Int) ≤ 2147483647) = false by simpa using hf)
    clear hf
    go_enter Try.func12, Try.ntmps12
    go_wp2_with fail
    refine (fits_any _ a m cap _ hmm).mono ?_
    rintro e w1 ⟨rfl, hb1⟩
    rw [HF.out]
    go_wp2_with fail
    go_ret
    exact ⟨rfl, HB0.out.trans (hb1.mono (by simp))⟩
end Go.Proofs.Ytbgmkojiklphmaa
