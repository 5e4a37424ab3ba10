/- The walk of the law FnBSWords: it returns true at every input. -/
import Derived.Test.YtbgmkojiklphmaaBsWords
import Derived.Deep.RegionHeld3
namespace Go.Proofs.Ytbgmkojiklphmaa
set_option linter.unusedVariables false
open Go.RowKit

set_option maxRecDepth 100000 in
set_option maxHeartbeats 4000000 in
theorem law_bswords (v : Value) (w : World) (hv : AnyBits w v) :
    Calls Try.prog 4 #[v] w fun e w' => e = .returned (.bool true) ∧ Below w.heap.size w w' := by
  have HV0 := hv
  obtain ⟨L, s, xs, rfl, hL, hs, hx⟩ := hv
  obtain ⟨a, m, cap, rfl, hl, hc, hm, hr⟩ := hs
  have hmm : m ≤ maxLen := by omega
  have HV := Lib.hid HV0
  clear HV0 hL hx hl hc hm hr
  have hb0 : Below w.heap.size w (w.alloc (.cells #[.int .u64 (L : Int), .slice a m cap] 25)) := (Below.refl _ _).alloc (Nat.le_refl _) _
  have HB0 := Lib.hid hb0
  clear hb0
  by_cases hf : (m : Int) ≤ 2147483647
  · have HF := Lib.hid (show decide ((m : Int) ≤ 2147483647) = true by simpa using hf)
    clear hf
    go_enter Try.func4, Try.ntmps4
    go_wp2_with fail
    refine (fits_any _ a m cap _ hmm).mono ?_
    rintro e w1 ⟨rfl, hb1⟩
    rw [HF.out]
    have hz1 := hb1.size
    rw [World.size_alloc] at hz1
    have bk1 := (Blk.new w 25 #[.int .u64 (L : Int), .slice a m cap]).below hb1 (by simp)
    have c0 : w1.cell? ⟨w.heap.size, 0, none⟩ = some (.int .u64 (L : Int)) := bk1.cell 0 rfl
    have c1 : w1.cell? ⟨w.heap.size, 1, none⟩ = some (.slice a m cap) := bk1.cell 1 rfl
    clear bk1
    go_wp2_with fail
    refine (bits_any _ _ ?hb).mono ?_
    case hb => exact (HV.out.below rfl HB0.out).below rfl hb1
    rintro e w2 ⟨va, bs, rfl, hbl, hob, hb2⟩
    have HOB := Lib.hid hob
    obtain ⟨p1, m1, k1, rfl, _⟩ := hob
    have hz2 := hb2.size
    have HT : Hid (Below w.heap.size w w2 ∧ w.heap.size ≤ w2.heap.size) := ⟨(HB0.out.trans (hb1.mono (by simp))).trans (hb2.mono (by simp at *; omega)), by have := hb2.size; simp at *; omega⟩
    clear hb1 hb2 c0 c1 hz1 hz2 HV HB0 HF hmm
    have hbA : Below w2.heap.size w2 (w2.alloc (.cells #[.int .u64 (bs.length : Int), .slice p1 m1 k1] 25)) := (Below.refl _ _).alloc (Nat.le_refl _) _
    have HIA := Lib.hid (HOB.out.is.below rfl hbA)
    have HBKA := Lib.hid (Blk.new w2 25 #[.int .u64 (bs.length : Int), .slice p1 m1 k1])
    have HBA := Lib.hid hbA
    clear hbA
    go_wp2_with fail
    refine (bswords_any _ bs _ HIA.out hbl).mono ?_
    rintro e w3 ⟨vw, ws, rfl, hown, hwl, hbit, hx, hb3⟩
    obtain ⟨wa, wn, wc, rfl, hwn, hwc, hwm, _⟩ := Sl.of_owns hown
    rw [u64s_len] at hwn
    obtain rfl : wn = ws.length := hwn.symm
    have HSW := Lib.hid (Sl.of_owns hown)
    have HWL := Lib.hid hwl
    have HBIT := Lib.hid hbit
    have HX := Lib.hid hx
    obtain ⟨n, hn⟩ : ∃ n, ws.length = n := ⟨_, rfl⟩
    have HN := Lib.hid hn
    have hn7 : n ≤ 7 := by omega
    have hd1 : ((bs.length : Int) + 63) / 64 = (n : Int) := by omega
    have hbk3 := HBKA.out.below hb3 (by simp)
    have c0 : w3.cell? ⟨w2.heap.size, 0, none⟩ = some (.int .u64 (bs.length : Int)) := hbk3.cell 0 rfl
    have c1 : w3.cell? ⟨w2.heap.size, 1, none⟩ = some (.slice p1 m1 k1) := hbk3.cell 1 rfl
    have HIA3 := Lib.hid (HIA.out.below rfl hb3)
    have hz3 := hb3.size
    rw [World.size_alloc] at hz3
    have HT3 : Hid (Below w.heap.size w w3) := HT.out.1.trans ((HBA.out.trans (hb3.mono (by simp))).mono HT.out.2)
    rw [hn] at hwc ⊢
    have hrn : decide ((n : Int) < (n : Int)) = false := by simp
    have hn64 : (64 : Int) * (n : Int) ≤ 1000 := by omega
    clear hown hwl hbit hx hn hbk3 hb3
    go_wp2_with fail
    refine (blbits_any (64 * n) _ ?hI 0 _ ws _ (by have := HSW.out; rw [HN.out] at this; exact this) HX.out (by omega)).mono ?_
    case hI => push_cast; rfl
    rintro e w4 ⟨vb, rfl, hown4, hb4⟩
    have HS4 := Lib.hid (Sl.of_owns hown4)
    have hz4 := hb4.size
    have c40 := (hb4.cell (p := ⟨w2.heap.size, 0, none⟩) (by simp only []; omega)).trans c0
    have c41 := (hb4.cell (p := ⟨w2.heap.size, 1, none⟩) (by simp only []; omega)).trans c1
    have HIA4 := Lib.hid (HIA3.out.below rfl hb4)
    have HSW4 := Lib.hid (HSW.out.below rfl hb4)
    have HT4 : Hid (Below w.heap.size w w4) := HT3.out.trans (hb4.mono (by have := HT.out.2; omega))
    clear hown4 hb4 c0 c1
    go_wp2_with fail
    refine (make_any _ _ _ HS4.out (by rw [Bsm.bitsOf_len]; omega)).mono ?_
    rintro e w5 ⟨vm, rfl, hob5, hb5⟩
    have HOB5 := Lib.hid hob5
    obtain ⟨p2, m2, k2, rfl, _⟩ := hob5
    have hz5 := hb5.size
    have c50 := (hb5.cell (p := ⟨w2.heap.size, 0, none⟩) (by simp only []; omega)).trans c40
    have c51 := (hb5.cell (p := ⟨w2.heap.size, 1, none⟩) (by simp only []; omega)).trans c41
    have HIA5 := Lib.hid (HIA4.out.below rfl hb5)
    have HSW5 := Lib.hid (HSW4.out.below rfl hb5)
    have HT5 : Hid (Below w.heap.size w w5) := HT4.out.trans (hb5.mono (by have := HT.out.2; omega))
    clear hb5 c40 c41
    go_wp2_with fail
    have hbB : Below w5.heap.size w5 (w5.alloc (.cells #[.int .u64 ((Bsm.bitsOf ws (64 * n)).length : Int), .slice p2 m2 k2] 25)).drew := ((Below.refl _ _).alloc (Nat.le_refl _) _).drew
    have HIB := Lib.hid (HIA5.out.below rfl hbB)
    have hsb := HSW5.out.below rfl hbB
    rw [HN.out] at hsb
    have HSB := Lib.hid hsb
    clear hsb
    have HPB : Hid (Sl (w5.alloc (.cells #[.int .u64 ((Bsm.bitsOf ws (64 * n)).length : Int), .slice p2 m2 k2] 25)).drew (.slice p2 m2 k2) (u64s (Bsm.pos (Bsm.bitsOf ws (64 * n))))) := by
      obtain ⟨s, e, hs⟩ := HOB5.out.is.below rfl hbB
      simp only [Value.agg.injEq, Array.mk.injEq, List.cons.injEq, and_true, true_and] at e
      subst e; exact hs
    have HPA : Hid (Sl (w5.alloc (.cells #[.int .u64 ((Bsm.bitsOf ws (64 * n)).length : Int), .slice p2 m2 k2] 25)).drew (.slice p1 m1 k1) (u64s (Bsm.pos bs))) := by
      obtain ⟨s, e, hs⟩ := HIB.out
      simp only [Value.agg.injEq, Array.mk.injEq, List.cons.injEq, and_true, true_and] at e
      rw [e]; exact hs
    have HPE := Lib.hid (pos_bitsOf ws bs (64 * n) HBIT.out (by omega))
    have HEQ := Lib.hid (eq_bits ws bs.length bs rfl fun j _ => HBIT.out j)
    have x00 : (w5.alloc (.cells #[.int .u64 ((Bsm.bitsOf ws (64 * n)).length : Int), .slice p2 m2 k2] 25)).drew.cell? ⟨w2.heap.size, 0, none⟩ = some (.int .u64 (bs.length : Int)) := (hbB.cell (p := ⟨w2.heap.size, 0, none⟩) (by simp only []; omega)).trans c50
    have x01 : (w5.alloc (.cells #[.int .u64 ((Bsm.bitsOf ws (64 * n)).length : Int), .slice p2 m2 k2] 25)).drew.cell? ⟨w2.heap.size, 1, none⟩ = some (.slice p1 m1 k1) := (hbB.cell (p := ⟨w2.heap.size, 1, none⟩) (by simp only []; omega)).trans c51
    have x02 : (w5.alloc (.cells #[.int .u64 ((Bsm.bitsOf ws (64 * n)).length : Int), .slice p2 m2 k2] 25)).drew.cell? ⟨w5.heap.size, 1, none⟩ = some (.slice p2 m2 k2) := (Blk.new w5 25 #[.int .u64 ((Bsm.bitsOf ws (64 * n)).length : Int), .slice p2 m2 k2]).cell 1 rfl
    have hzB : (w5.alloc (.cells #[.int .u64 ((Bsm.bitsOf ws (64 * n)).length : Int), .slice p2 m2 k2] 25)).drew.heap.size = w5.heap.size + 1 := by simp
    have HTB : Hid (Below w.heap.size w (w5.alloc (.cells #[.int .u64 ((Bsm.bitsOf ws (64 * n)).length : Int), .slice p2 m2 k2] 25)).drew) := HT5.out.trans (hbB.mono (by have := HT.out.2; omega))
    have hww := HT.out.2
    have hw1 : IntKind.u64.wrap ((bs.length : Int) + 63) = (bs.length : Int) + 63 := by rw [IntKind.wrap_u64]; omega
    have hn0 : (0 : Int) ≤ (n : Int) := by omega
    have hnc : (n : Int) ≤ (wc : Int) := by omega
    have hnn : ((n : Int)).toNat = n := by omega
    have hq1 : ((bs.length : Int) + 63).tdiv 64 = (n : Int) := by rw [Int.tdiv_eq_ediv_of_nonneg (by omega)]; omega
    have hw2 : IntKind.u64.wrap (n : Int) = (n : Int) := by rw [IntKind.wrap_u64]; omega
    have hsl := fun W => run_slice_to wa n wc n .u64 (n : Int) rfl hwc W
    clear hbB c50 c51
    go_region_held3 (fun w' => w'.cell? ⟨w2.heap.size, 0, none⟩ = some (.int .u64 (bs.length : Int)) ∧ w'.cell? ⟨w2.heap.size, 1, none⟩ = some (.slice p1 m1 k1) ∧ w'.cell? ⟨w5.heap.size, 1, none⟩ = some (.slice p2 m2 k2))
      ((first | go_keep | exact ⟨by assumption, by assumption, by assumption⟩ | assumption))
      ((first
        | (go_at_call 25; refine (list_yes _ _ _ _ _ HPB.out HPA.out HPE.out).mono ?_; rintro e w6 ⟨rfl, hb6⟩; have hz6 := hb6.size; have x60 := (hb6.cell (p := ⟨w2.heap.size, 0, none⟩) (by simp only []; omega)).trans x00; have x61 := (hb6.cell (p := ⟨w2.heap.size, 1, none⟩) (by simp only []; omega)).trans x01; have x62 := (hb6.cell (p := ⟨w5.heap.size, 1, none⟩) (by simp only []; omega)).trans x02)
        | (go_at_call 26; clear hw1 hw2 hq1 hsl hnn; have q1 := HSB.out.below rfl hb6; refine Calls.mono (bsfromlen_any _ ws bs.length _ q1 HX.out ?_ ?_) ?_; (rw [HN.out]; omega); (rw [HN.out]; omega); rintro e w7 ⟨vf, rfl, hob7, hb7⟩; rw [HEQ.out] at hob7; have HOB7 := Lib.hid hob7; have hz7 := hb7.size; have x70 := (hb7.cell (p := ⟨w2.heap.size, 0, none⟩) (by simp only []; omega)).trans x60; have x71 := (hb7.cell (p := ⟨w2.heap.size, 1, none⟩) (by simp only []; omega)).trans x61; have x72 := (hb7.cell (p := ⟨w5.heap.size, 1, none⟩) (by simp only []; omega)).trans x62)
        | (go_at_call 18; refine (same_yes _ _ bs _ HOB7.out.is ((HIB.out.below rfl hb6).below rfl hb7)).mono ?_; rintro e w8 ⟨rfl, hb8⟩; have hz8 := hb8.size; have x80 := (hb8.cell (p := ⟨w2.heap.size, 0, none⟩) (by simp only []; omega)).trans x70; have x81 := (hb8.cell (p := ⟨w2.heap.size, 1, none⟩) (by simp only []; omega)).trans x71; have x82 := (hb8.cell (p := ⟨w5.heap.size, 1, none⟩) (by simp only []; omega)).trans x72)))
    go_wp2_with fail
    go_ret
    exact ⟨rfl, (HTB.out.trans (hb6.mono (by omega))).trans ((hb7.mono (by omega)).trans (hb8.mono (by omega)))⟩
  · have HF := Lib.hid (show decide ((m : Int) ≤ 2147483647) = false by simpa using hf)
    clear hf
    go_enter Try.func4, Try.ntmps4
    go_wp2_with fail
    refine (fits_any _ a m cap _ hmm).mono ?_
    rintro e w1 ⟨rfl, hb1⟩
    rw [HF.out]
    go_wp2_with fail
    go_ret
    exact ⟨rfl, HB0.out.trans (hb1.mono (by simp))⟩
end Go.Proofs.Ytbgmkojiklphmaa
