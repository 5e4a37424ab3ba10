/- The walk of the law FnBSSet: it returns true at every input. -/
import Derived.Test.YtbgmkojiklphmaaBsSetTo
import Derived.Deep.RegionHeld3
namespace Go.Proofs.Ytbgmkojiklphmaa
set_option linter.unusedVariables false
open Go.RowKit

set_option maxRecDepth 100000 in
set_option maxHeartbeats 2000000 in
theorem law_bsset (v : Value) (at_ : Int) (w : World) (hv : AnyBits w v) (ha : 0 ≤ at_) (ha2 : at_ ≤ 65535) :
    Calls Try.prog 5 #[v, .int .u16 at_] w fun e w' => e = .returned (.bool true) ∧ Below w.heap.size w w' := by
  have HV0 := hv
  obtain ⟨L, s, xs, rfl, hL, hs, hx⟩ := hv
  obtain ⟨a, m, cap, rfl, hl, hc, hm, hr⟩ := hs
  have hmm : m ≤ maxLen := by omega
  have HV := Lib.hid HV0
  clear HV0 hL hx hl hc hm hr
  have hb0 : Below w.heap.size w (w.alloc (.cells #[.int .u64 (L : Int), .slice a m cap] 25)) := (Below.refl _ _).alloc (Nat.le_refl _) _
  have HB0 := Lib.hid hb0
  clear hb0
  obtain ⟨i, hi⟩ : ∃ i : Nat, at_ % 1000 = (i : Int) := ⟨(at_ % 1000).toNat, by omega⟩
  have hi2 : i < 1000 := by omega
  by_cases hf : (m : Int) ≤ 2147483647
  · have HF := Lib.hid (show decide ((m : Int) ≤ 2147483647) = true by simpa using hf)
    clear hf
    go_enter Try.func5, Try.ntmps5
    go_wp2_with fail
    refine (fits_any _ a m cap _ hmm).mono ?_
    rintro e w1 ⟨rfl, hb1⟩
    rw [HF.out]
    have hz1 := hb1.size
    rw [World.size_alloc] at hz1
    have bk1 := (Blk.new w 25 #[.int .u64 (L : Int), .slice a m cap]).below hb1 (by simp)
    have c0 : w1.cell? ⟨w.heap.size, 0, none⟩ = some (.int .u64 (L : Int)) := bk1.cell 0 rfl
    have c1 : w1.cell? ⟨w.heap.size, 1, none⟩ = some (.slice a m cap) := bk1.cell 1 rfl
    clear bk1
    go_wp2_with fail
    refine (bits_any _ _ ?hb).mono ?_
    case hb => exact (HV.out.below rfl HB0.out).below rfl (hb1.trans (by repeat (first | exact Below.refl _ _ | refine Below.alloc ?_ (by simp; omega) _)))
    rintro e w2 ⟨va, bs, rfl, hbl, hob, hb2⟩
    have HOB := Lib.hid hob
    obtain ⟨p1, m1, k1, rfl, _⟩ := hob
    have hz2 := hb2.size
    have HT : Hid (Below w.heap.size w w2 ∧ w.heap.size ≤ w2.heap.size) := ⟨(HB0.out.trans (hb1.mono (by simp))).trans (hb2.mono (by simp at *; omega)), by have := hb2.size; simp at *; omega⟩
    clear hb1 hb2 c0 c1 hz1 hz2
    have hbA : Below w2.heap.size w2 (w2.alloc (.cells #[.int .u64 (bs.length : Int), .slice p1 m1 k1] 25)) := (Below.refl _ _).alloc (Nat.le_refl _) _
    have HIA := Lib.hid (HOB.out.is.below rfl hbA)
    have bkA := Blk.new w2 25 #[.int .u64 (bs.length : Int), .slice p1 m1 k1]
    clear hbA
    go_wp2_with fail
    refine (bools_any _ bs _ HIA.out (by omega)).mono ?_
    rintro e w4 ⟨vb, rfl, hown4, hb4⟩
    have hz4 := hb4.size
    rw [World.size_alloc] at hz4
    go_wp2_with fail
    refine (put_at _ bs i 1 _ _ _ (by first | exact hi | rfl) (by first | rfl | omega) (by rfl) _ (Sl.of_owns hown4) (by omega) (by omega) (by omega) (by omega)).mono ?_
    rintro e w5 ⟨vp, rfl, hown5, hb5⟩
    have hz5 := hb5.size
    go_wp2_with fail
    refine (make_any _ _ _ (Sl.of_owns hown5) (by rw [put_len, Bsm.grow_len]; omega)).mono ?_
    rintro e w6 ⟨vm, rfl, hob6, hb6⟩
    have hz6 := hb6.size
    have hbA6 : Below (w2.heap.size + 1) (w2.alloc (.cells #[.int .u64 (bs.length : Int), .slice p1 m1 k1] 25)) w6 := ((hb4.mono (by simp)).trans (hb5.mono (by omega))).trans (hb6.mono (by omega))
    have bk6 := bkA.below hbA6 (by omega)
    have a0 : w6.cell? ⟨w2.heap.size, 0, none⟩ = some (.int .u64 (bs.length : Int)) := bk6.cell 0 rfl
    have a1 : w6.cell? ⟨w2.heap.size, 1, none⟩ = some (.slice p1 m1 k1) := bk6.cell 1 rfl
    have HO6 := Lib.hid hob6
    obtain ⟨p6, m6, k6, rfl, _⟩ := hob6
    have HIA6 := Lib.hid (((HIA.out.below rfl hb4).below rfl hb5).below rfl hb6)
    have HTA : Hid (Below w2.heap.size w2 w6) := ((Below.refl _ _).alloc (Nat.le_refl _) _).trans (hbA6.mono (by omega))
    clear hb4 hb5 hb6 hbA6 bk6 bkA hown4 hown5
    go_wp2_with fail
    have hbC : Below w6.heap.size w6 (w6.alloc (.cells #[.int .u64 ((put 1 (Bsm.grow bs (i + 1)) i 1).length : Int), .slice p6 m6 k6] 25)) := (Below.refl _ _).alloc (Nat.le_refl _) _
    have HA7 := Lib.hid (IsBits.drew (HIA6.out.below rfl hbC))
    have HW7 := Lib.hid (IsBits.drew (HO6.out.is.below rfl hbC))
    clear hbC
    have e1w : IntKind.u64.wrap (i : Int) = (i : Int) := by rw [IntKind.wrap_u64]; omega
    have hlt : w2.heap.size < w6.heap.size := by omega
    have hlt2 : w2.heap.size < w6.heap.size + 1 := by omega
    go_region_held3 (fun w' => w'.cell? ⟨w2.heap.size, 0, none⟩ = some (.int .u64 (bs.length : Int)) ∧ w'.cell? ⟨w2.heap.size, 1, none⟩ = some (.slice p1 m1 k1) ∧
        w'.cell? ⟨w6.heap.size, 0, none⟩ = some (.int .u64 ((put 1 (Bsm.grow bs (i + 1)) i 1).length : Int)) ∧ w'.cell? ⟨w6.heap.size, 1, none⟩ = some (.slice p6 m6 k6))
      (go_keep)
      ((first
        | (go_at_call 27; refine (bsset_any _ bs i _ rfl _ HA7.out hbl hi2).mono ?_; rintro e w8 ⟨vS, rfl, hob8, hb8⟩; obtain ⟨hc8, hf8⟩ := bcell hb8; have hz8 : w6.heap.size < w8.heap.size := (by have := hb8.size; simp at this; omega); have hy8 : w2.heap.size < w8.heap.size := by omega)
        | (go_at_call 28; refine (bssetto_any _ bs i _ rfl _ ((HA7.out.below rfl hb8).below rfl hb9) hbl hi2).mono ?_; rintro e wA ⟨vT, rfl, hobA, hbA⟩; obtain ⟨hcA, hfA⟩ := bcell hbA; have hzA : w6.heap.size < wA.heap.size := (by have := hbA.size; omega); have hyA : w2.heap.size < wA.heap.size := by omega)
        | (go_at_call 18; refine (same_yes _ _ _ _ hobA.is (((HW7.out.below rfl hb8).below rfl hb9).below rfl hbA)).mono ?_; rintro e wB ⟨rfl, hbB⟩; obtain ⟨hcB, hfB⟩ := bcell hbB; have hzB : w6.heap.size < wB.heap.size := (by have := hbB.size; omega); have hyB : w2.heap.size < wB.heap.size := by omega)
        | (go_at_call 18; refine (same_yes _ _ _ _ hob8.is (HW7.out.below rfl hb8)).mono ?_; rintro e w9 ⟨rfl, hb9⟩; obtain ⟨hc9, hf9⟩ := bcell hb9; have hz9 : w6.heap.size < w9.heap.size := (by have := hb9.size; omega); have hy9 : w2.heap.size < w9.heap.size := by omega)))
    go_wp2_with fail
    go_ret
    have h68 : Below w6.heap.size w6 w8 := (((Below.refl _ _).alloc (Nat.le_refl _) _).drew).trans (hb8.mono (by simp))
    exact ⟨rfl, HT.out.1.trans ((HTA.out.trans ((((h68.trans (hb9.mono (by omega))).trans (hbA.mono (by omega))).trans (hbB.mono (by omega))).mono (by omega))).mono HT.out.2)⟩
  · have HF := Lib.hid (show decide ((m : Int) ≤ 2147483647) = false by simpa using hf)
    clear hf
    go_enter Try.func5, Try.ntmps5
    go_wp2_with fail
    refine (fits_any _ a m cap _ hmm).mono ?_
    rintro e w1 ⟨rfl, hb1⟩
    rw [HF.out]
    go_wp2_with fail
    go_ret
    exact ⟨rfl, HB0.out.trans (hb1.mono (by simp))⟩
end Go.Proofs.Ytbgmkojiklphmaa
