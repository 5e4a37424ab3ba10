/- The walk of the law FnBSBetween: it returns true at every input. -/
import Derived.Test.YtbgmkojiklphmaaBsBetweenImpl
import Derived.Deep.RegionHeld3
namespace Go.Proofs.Ytbgmkojiklphmaa
set_option linter.unusedVariables false
open Go.RowKit

set_option maxRecDepth 100000 in
set_option maxHeartbeats 2000000 in
theorem law_bsbetween (v : Value) (from_ to_ : Int) (w : World) (hv : AnyBits w v) (ha : 0 ≤ from_) (ha2 : from_ ≤ 65535) (hb : 0 ≤ to_) (hb2 : to_ ≤ 65535) :
    Calls Try.prog 13 #[v, .int .u16 from_, .int .u16 to_] w fun e w' => e = .returned (.bool true) ∧ Below w.heap.size w w' := by
  have HV0 := hv
  obtain ⟨L, s, xs, rfl, hL, hs, hx⟩ := hv
  obtain ⟨a, m, cap, rfl, hl, hc, hm, hr⟩ := hs
  have hmm : m ≤ maxLen := by omega
  have HV := Lib.hid HV0
  clear HV0 hL hx hl hc hm hr
  have hb0 : Below w.heap.size w (w.alloc (.cells #[.int .u64 (L : Int), .slice a m cap] 25)) := (Below.refl _ _).alloc (Nat.le_refl _) _
  have HB0 := Lib.hid hb0
  clear hb0
  obtain ⟨i, hi⟩ : ∃ i : Nat, from_ % 500 = (i : Int) := ⟨(from_ % 500).toNat, by omega⟩
  have hi2 : i < 500 := by omega
  obtain ⟨k, hk⟩ : ∃ k : Nat, to_ % 500 = (k : Int) := ⟨(to_ % 500).toNat, by omega⟩
  have hk2 : k < 500 := by omega
  by_cases hf : (m : Int) ≤ 2147483647
  · have HF := Lib.hid (show decide ((m : Int) ≤ 2147483647) = true by simpa using hf)
    clear hf
    go_enter Try.func13, Try.ntmps13
    go_wp2_with fail
    refine (fits_any _ a m cap _ hmm).mono ?_
    rintro e w1 ⟨rfl, hb1⟩
    rw [HF.out]
    have hz1 := hb1.size
    rw [World.size_alloc] at hz1
    have bk1 := (Blk.new w 25 #[.int .u64 (L : Int), .slice a m cap]).below hb1 (by simp)
    have c0 : w1.cell? ⟨w.heap.size, 0, none⟩ = some (.int .u64 (L : Int)) := bk1.cell 0 rfl
    have c1 : w1.cell? ⟨w.heap.size, 1, none⟩ = some (.slice a m cap) := bk1.cell 1 rfl
    clear bk1
    go_wp2_with fail
    refine (bits_any _ _ ?hb).mono ?_
    case hb => exact (HV.out.below rfl HB0.out).below rfl (hb1.trans (by repeat (first | exact Below.refl _ _ | refine Below.alloc ?_ (by simp; omega) _)))
    rintro e w2 ⟨va, bs, rfl, hbl, hob, hb2⟩
    have HOB := Lib.hid hob
    obtain ⟨p1, m1, k1, rfl, _⟩ := hob
    have hz2 := hb2.size
    have HT : Hid (Below w.heap.size w w2 ∧ w.heap.size ≤ w2.heap.size) := ⟨(HB0.out.trans (hb1.mono (by simp))).trans (hb2.mono (by simp at *; omega)), by have := hb2.size; simp at *; omega⟩
    clear hb1 hb2 c0 c1 hz1 hz2
    have hbA : Below w2.heap.size w2 (w2.alloc (.cells #[.int .u64 (bs.length : Int), .slice p1 m1 k1] 25)) := (Below.refl _ _).alloc (Nat.le_refl _) _
    have HIA := Lib.hid (HOB.out.is.below rfl hbA)
    have HIAD := Lib.hid (HIA.out.below rfl (Below.refl _ _).drew)
    clear hbA
    have e1w : IntKind.u64.wrap (i : Int) = (i : Int) := by rw [IntKind.wrap_u64]; omega
    have e2w : IntKind.u64.wrap (k : Int) = (k : Int) := by rw [IntKind.wrap_u64]; omega
    go_wp2_with fail
    go_region_held3 (fun w' => w'.cell? ⟨w2.heap.size, 0, none⟩ = some (.int .u64 (bs.length : Int)) ∧ w'.cell? ⟨w2.heap.size, 1, none⟩ = some (.slice p1 m1 k1))
      ((first | go_keep | exact ⟨by assumption, by assumption⟩ | assumption))
      ((first
        | (go_at_call 46; refine (bsbetween_any _ bs i k _ _ rfl rfl _ (IsBits.drew HIA.out) hbl (by omega) (by omega)).mono ?_; rintro e w3 ⟨rfl, hb3⟩; obtain ⟨hc3, hf3⟩ := bcell hb3; have hz3 : w2.heap.size < w3.heap.size := by have := hb3.size; simp at this; omega)
        | (go_at_call 22; refine (bools_any _ bs _ (HIAD.out.below rfl hb3) (by omega)).mono ?_; rintro e w4 ⟨vb, rfl, hown4, hb4⟩; obtain ⟨hc4, hf4⟩ := bcell hb4; have hz4 : w2.heap.size < w4.heap.size := Nat.lt_of_lt_of_le hz3 hb4.size)
        | (go_at_call 32; refine (bscount_any _ bs i k _ rfl _ (Sl.of_owns hown4) (by omega) (by omega) (by omega)).mono ?_; rintro e w5 ⟨rfl, rfl⟩)))
    go_wp2_with fail
    go_ret
    have h2 : Below w2.heap.size w2 w3 := (((Below.refl _ _).alloc (Nat.le_refl _) _).drew).trans (hb3.mono (by simp))
    refine ⟨ret_bool (by simp), HT.out.1.trans ((h2.trans (hb4.mono (by omega))).mono HT.out.2)⟩
  · have HF := Lib.hid (show decide ((m : Int) ≤ 2147483647) = false by simpa using hf)
    clear hf
    go_enter Try.func13, Try.ntmps13
    go_wp2_with fail
    refine (fits_any _ a m cap _ hmm).mono ?_
    rintro e w1 ⟨rfl, hb1⟩
    rw [HF.out]
    go_wp2_with fail
    go_ret
    exact ⟨rfl, HB0.out.trans (hb1.mono (by simp))⟩
end Go.Proofs.Ytbgmkojiklphmaa
