/- The walk of the law FnBSCopy: it returns true at every input. -/
import Derived.Test.YtbcbkieebelleaaBsTwoHead
import Derived.Test.YtbcbkieebelleaaBsCopyHead
import Derived.Deep.RegionHeld3
import Derived.Deep.DeepCutAuto
import Derived.Outline
namespace Go.Proofs.Ytbcbkieebelleaa
set_option linter.unusedVariables false
open Go.RowKit

set_option maxRecDepth 100000 in
set_option maxHeartbeats 16000000 in
theorem law_bscopy (v u : Value) (w : World) (hv : AnyBits w v) (hu : AnyBits w u) :
    Calls Try.prog 3 #[v, u] w fun e w' => e = .returned (.bool true) ∧ Below w.heap.size w w' := by
  have HV0 := hv
  have HU0 := hu
  obtain ⟨L, s, xs, rfl, hL, hs, hx⟩ := hv
  obtain ⟨a, m, cap, rfl, hl, hc, hm, hr⟩ := hs
  obtain ⟨L2, s2, ys, rfl, hL2, hs2, hx2⟩ := hu
  obtain ⟨a2, m2, cap2, rfl, hl2, hc2, hm2, hr2⟩ := hs2
  have hmm : m ≤ maxLen := by omega
  have hmm2 : m2 ≤ maxLen := by omega
  have hb0 : Below w.heap.size w ((w.alloc (.cells #[.int .u64 (L : Int), .slice a m cap] 25)).alloc (.cells #[.int .u64 (L2 : Int), .slice a2 m2 cap2] 25)) := ((Below.refl _ _).alloc (Nat.le_refl _) _).alloc (by simp) _
  have HV := Lib.hid (HV0.below rfl hb0)
  have HU := Lib.hid (HU0.below rfl hb0)
  have HB0 := Lib.hid hb0
  have k1 := Blk.new (w.alloc (.cells #[.int .u64 (L : Int), .slice a m cap] 25)) 25 #[.int .u64 (L2 : Int), .slice a2 m2 cap2]
  have k0 := (Blk.new w 25 #[.int .u64 (L : Int), .slice a m cap]).alloc (.cells #[.int .u64 (L2 : Int), .slice a2 m2 cap2] 25)
  rw [World.size_alloc] at k1
  have K0 := Lib.hid k0
  have K1 := Lib.hid k1
  clear HV0 HU0 hL hx hl hc hm hr hL2 hx2 hl2 hc2 hm2 hr2 hb0 k0 k1
  by_cases hf : (m : Int) ≤ 2147483647
  · by_cases hf2 : (m2 : Int) ≤ 2147483647
    · have HF := Lib.hid (show decide ((m : Int) ≤ 2147483647) = true by simpa using hf)
      have HF2 := Lib.hid (show decide ((m2 : Int) ≤ 2147483647) = true by simpa using hf2)
      clear hf hf2
      go_enter Try.func3, Try.ntmps3
      go_wp2_with fail
      refine (fits_any _ a m cap _ hmm).mono ?_
      rintro e w1 ⟨rfl, hb1⟩
      rw [HF.out]
      have hz1 := hb1.size
      simp only [World.size_alloc] at hz1
      have x0 : w1.cell? ⟨w.heap.size, 0, none⟩ = some (.int .u64 (L : Int)) := (K0.out.below hb1 (by simp; omega)).cell 0 rfl
      have x1 : w1.cell? ⟨w.heap.size, 1, none⟩ = some (.slice a m cap) := (K0.out.below hb1 (by simp; omega)).cell 1 rfl
      have x2 : w1.cell? ⟨w.heap.size + 1, 0, none⟩ = some (.int .u64 (L2 : Int)) := (K1.out.below hb1 (by simp)).cell 0 rfl
      have x3 : w1.cell? ⟨w.heap.size + 1, 1, none⟩ = some (.slice a2 m2 cap2) := (K1.out.below hb1 (by simp)).cell 1 rfl
      go_wp2_with fail
      refine (fits_any _ a2 m2 cap2 _ hmm2).mono ?_
      rintro e w2 ⟨rfl, hb2⟩
      rw [HF2.out]
      have hz2 := hb2.size
      have y0 := (hb2.cell (p := ⟨w.heap.size, 0, none⟩) (by simp; omega)).trans x0
      have y1 := (hb2.cell (p := ⟨w.heap.size, 1, none⟩) (by simp; omega)).trans x1
      have y2 := (hb2.cell (p := ⟨w.heap.size + 1, 0, none⟩) (by simp; omega)).trans x2
      have y3 := (hb2.cell (p := ⟨w.heap.size + 1, 1, none⟩) (by simp; omega)).trans x3
      have HV2 := Lib.hid ((HV.out.below rfl hb1).below rfl hb2)
      have HU2 := Lib.hid ((HU.out.below rfl hb1).below rfl hb2)
      have HT := Lib.hid (HB0.out.trans ((hb1.mono (by simp; omega)).trans (hb2.mono (by omega))))
      have hz3 : w.heap.size + 1 < w2.heap.size := by omega
      have HZ3 := Lib.hid hz3
      have ne20 : ¬ w2.heap.size = w.heap.size := (by omega)
      have ne21 : ¬ w2.heap.size = w.heap.size + 1 := (by omega)
      have ne22 : ¬ w2.heap.size + 1 = w.heap.size := (by omega)
      have ne23 : ¬ w2.heap.size + 1 = w.heap.size + 1 := (by omega)
      have hd : ∀ W : World, W.drew.heap.size = W.heap.size := fun _ => rfl
      clear x0 x1 x2 x3 hb1 hb2 hz1 hz2
      go_upto_region 3 with fail
      go_cut [5, 6] (fun s5 s6 wx => TwoCut w s5 s6 wx)
      case first =>
        go_region_held3 (fun w' => w'.cell? ⟨w.heap.size, 0, none⟩ = some (.int .u64 (L : Int)) ∧ w'.cell? ⟨w.heap.size, 1, none⟩ = some (.slice a m cap) ∧ w'.cell? ⟨w.heap.size + 1, 0, none⟩ = some (.int .u64 (L2 : Int)) ∧ w'.cell? ⟨w.heap.size + 1, 1, none⟩ = some (.slice a2 m2 cap2))
          ((first | go_keep | exact ⟨by assumption, by assumption, by assumption, by assumption⟩ | assumption))
          ((first
            | ((fail_if_success (have tok := hb4)); go_at_call 12; refine Calls.mono (bits_any _ _ ?_) ?_; exact HV2.out.below rfl (by (repeat (first | with_reducible exact Below.refl _ _ | with_reducible exact hT5 | with_reducible exact hT4 | with_reducible refine Below.drew ?_ | with_reducible refine Below.alloc ?_ ?_ _ | with_reducible refine Below.setCell ?_ ?_ _ | (first | omega | (simp only [hd, World.size_alloc, World.size_setCell]; done) | (simp only [hd, World.size_alloc, World.size_setCell]; omega))))); rintro e w4 ⟨va, bs1, rfl, hbl1, hob1, hb4⟩; have hT4 : Below w2.heap.size w2 w4 := Below.trans (by (repeat (first | with_reducible exact Below.refl _ _ | with_reducible exact hT5 | with_reducible exact hT4 | with_reducible refine Below.drew ?_ | with_reducible refine Below.alloc ?_ ?_ _ | with_reducible refine Below.setCell ?_ ?_ _ | (first | omega | (simp only [hd, World.size_alloc, World.size_setCell]; done) | (simp only [hd, World.size_alloc, World.size_setCell]; omega))))) (hb4.mono (by (try simp only [hd, World.size_alloc]); omega)); have hz4 := hT4.size; have ne40 : ¬ w4.heap.size = w.heap.size := (by omega); have ne41 : ¬ w4.heap.size = w.heap.size + 1 := (by omega); have ne42 : ¬ w4.heap.size + 1 = w.heap.size := (by omega); have ne43 : ¬ w4.heap.size + 1 = w.heap.size + 1 := (by omega); have HOB1 := Lib.hid hob1; obtain ⟨q1, l1, d1, rfl, _⟩ := hob1; obtain ⟨hc4, hf4⟩ := bcell hb4; (try have z400 : w4.cell? ⟨w2.heap.size, 0, none⟩ = some (.int .u64 0) := by rw [hc4 _ _ (by (try simp only [hd, World.size_alloc]); omega)]; simp [*, World.cell?_alloc_past, World.frozen?_alloc_past]); (try have n40 := World.block_lt_of_cell? w4 _ z400); (try have f400 : w4.frozen? ⟨w2.heap.size, 0, none⟩ = false := by rw [hf4 _ _ (by (try simp only [hd, World.size_alloc]); omega)]; simp [*, World.cell?_alloc_past, World.frozen?_alloc_past]); (try have z401 : w4.cell? ⟨w2.heap.size, 1, none⟩ = some (.slice none 0 0) := by rw [hc4 _ _ (by (try simp only [hd, World.size_alloc]); omega)]; simp [*, World.cell?_alloc_past, World.frozen?_alloc_past]); (try have f401 : w4.frozen? ⟨w2.heap.size, 1, none⟩ = false := by rw [hf4 _ _ (by (try simp only [hd, World.size_alloc]); omega)]; simp [*, World.cell?_alloc_past, World.frozen?_alloc_past]); (try have z410 : w4.cell? ⟨w2.heap.size + 1, 0, none⟩ = some (.int .u64 0) := by rw [hc4 _ _ (by (try simp only [hd, World.size_alloc]); omega)]; simp [*, World.cell?_alloc_past, World.frozen?_alloc_past]); (try have n41 := World.block_lt_of_cell? w4 _ z410); (try have f410 : w4.frozen? ⟨w2.heap.size + 1, 0, none⟩ = false := by rw [hf4 _ _ (by (try simp only [hd, World.size_alloc]); omega)]; simp [*, World.cell?_alloc_past, World.frozen?_alloc_past]); (try have z411 : w4.cell? ⟨w2.heap.size + 1, 1, none⟩ = some (.slice none 0 0) := by rw [hc4 _ _ (by (try simp only [hd, World.size_alloc]); omega)]; simp [*, World.cell?_alloc_past, World.frozen?_alloc_past]); (try have f411 : w4.frozen? ⟨w2.heap.size + 1, 1, none⟩ = false := by rw [hf4 _ _ (by (try simp only [hd, World.size_alloc]); omega)]; simp [*, World.cell?_alloc_past, World.frozen?_alloc_past]); have s40 := (hT4.cell (p := ⟨w.heap.size, 0, none⟩) (by simp; omega)).trans y0; have s41 := (hT4.cell (p := ⟨w.heap.size, 1, none⟩) (by simp; omega)).trans y1; have s42 := (hT4.cell (p := ⟨w.heap.size + 1, 0, none⟩) (by simp; omega)).trans y2; have s43 := (hT4.cell (p := ⟨w.heap.size + 1, 1, none⟩) (by simp; omega)).trans y3)
            | (go_at_call 12; refine Calls.mono (bits_any _ _ ?_) ?_; exact HU2.out.below rfl (by (repeat (first | with_reducible exact Below.refl _ _ | with_reducible exact hT5 | with_reducible exact hT4 | with_reducible refine Below.drew ?_ | with_reducible refine Below.alloc ?_ ?_ _ | with_reducible refine Below.setCell ?_ ?_ _ | (first | omega | (simp only [hd, World.size_alloc, World.size_setCell]; done) | (simp only [hd, World.size_alloc, World.size_setCell]; omega))))); rintro e w5 ⟨vb, bs2, rfl, hbl2, hob2, hb5⟩; have hT5 : Below w2.heap.size w2 w5 := Below.trans (by (repeat (first | with_reducible exact Below.refl _ _ | with_reducible exact hT5 | with_reducible exact hT4 | with_reducible refine Below.drew ?_ | with_reducible refine Below.alloc ?_ ?_ _ | with_reducible refine Below.setCell ?_ ?_ _ | (first | omega | (simp only [hd, World.size_alloc, World.size_setCell]; done) | (simp only [hd, World.size_alloc, World.size_setCell]; omega))))) (hb5.mono (by (try simp only [hd, World.size_alloc]); omega)); have hz5 : w4.heap.size ≤ w5.heap.size := (by have := hb5.size; (try simp only [hd, World.size_alloc] at this); omega); have HOB2 := Lib.hid hob2; obtain ⟨q2, l2, d2, rfl, _⟩ := hob2; have ne50 : ¬ w5.heap.size = w.heap.size := (by omega); have ne51 : ¬ w5.heap.size = w.heap.size + 1 := (by omega); have ne52 : ¬ w5.heap.size + 1 = w.heap.size := (by omega); have ne53 : ¬ w5.heap.size + 1 = w.heap.size + 1 := (by omega); obtain ⟨hc5, hf5⟩ := bcell hb5; (try have z500 : w5.cell? ⟨w2.heap.size, 0, none⟩ = some (.int .u64 0) := by rw [hc5 _ _ (by (try simp only [hd, World.size_alloc]); omega)]; simp [*, World.cell?_alloc_past, World.frozen?_alloc_past]); (try have n50 := World.block_lt_of_cell? w5 _ z500); (try have f500 : w5.frozen? ⟨w2.heap.size, 0, none⟩ = false := by rw [hf5 _ _ (by (try simp only [hd, World.size_alloc]); omega)]; simp [*, World.cell?_alloc_past, World.frozen?_alloc_past]); (try have z501 : w5.cell? ⟨w2.heap.size, 1, none⟩ = some (.slice none 0 0) := by rw [hc5 _ _ (by (try simp only [hd, World.size_alloc]); omega)]; simp [*, World.cell?_alloc_past, World.frozen?_alloc_past]); (try have f501 : w5.frozen? ⟨w2.heap.size, 1, none⟩ = false := by rw [hf5 _ _ (by (try simp only [hd, World.size_alloc]); omega)]; simp [*, World.cell?_alloc_past, World.frozen?_alloc_past]); (try have z510 : w5.cell? ⟨w2.heap.size + 1, 0, none⟩ = some (.int .u64 0) := by rw [hc5 _ _ (by (try simp only [hd, World.size_alloc]); omega)]; simp [*, World.cell?_alloc_past, World.frozen?_alloc_past]); (try have n51 := World.block_lt_of_cell? w5 _ z510); (try have f510 : w5.frozen? ⟨w2.heap.size + 1, 0, none⟩ = false := by rw [hf5 _ _ (by (try simp only [hd, World.size_alloc]); omega)]; simp [*, World.cell?_alloc_past, World.frozen?_alloc_past]); (try have z511 : w5.cell? ⟨w2.heap.size + 1, 1, none⟩ = some (.slice none 0 0) := by rw [hc5 _ _ (by (try simp only [hd, World.size_alloc]); omega)]; simp [*, World.cell?_alloc_past, World.frozen?_alloc_past]); (try have f511 : w5.frozen? ⟨w2.heap.size + 1, 1, none⟩ = false := by rw [hf5 _ _ (by (try simp only [hd, World.size_alloc]); omega)]; simp [*, World.cell?_alloc_past, World.frozen?_alloc_past]); (try have z520 : w5.cell? ⟨w4.heap.size, 0, none⟩ = some (.int .u64 0) := by rw [hc5 _ _ (by (try simp only [hd, World.size_alloc]); omega)]; simp [*, World.cell?_alloc_past, World.frozen?_alloc_past]); (try have n52 := World.block_lt_of_cell? w5 _ z520); (try have f520 : w5.frozen? ⟨w4.heap.size, 0, none⟩ = false := by rw [hf5 _ _ (by (try simp only [hd, World.size_alloc]); omega)]; simp [*, World.cell?_alloc_past, World.frozen?_alloc_past]); (try have z521 : w5.cell? ⟨w4.heap.size, 1, none⟩ = some (.slice none 0 0) := by rw [hc5 _ _ (by (try simp only [hd, World.size_alloc]); omega)]; simp [*, World.cell?_alloc_past, World.frozen?_alloc_past]); (try have f521 : w5.frozen? ⟨w4.heap.size, 1, none⟩ = false := by rw [hf5 _ _ (by (try simp only [hd, World.size_alloc]); omega)]; simp [*, World.cell?_alloc_past, World.frozen?_alloc_past]); (try have z530 : w5.cell? ⟨w4.heap.size + 1, 0, none⟩ = some (.int .u64 0) := by rw [hc5 _ _ (by (try simp only [hd, World.size_alloc]); omega)]; simp [*, World.cell?_alloc_past, World.frozen?_alloc_past]); (try have n53 := World.block_lt_of_cell? w5 _ z530); (try have f530 : w5.frozen? ⟨w4.heap.size + 1, 0, none⟩ = false := by rw [hf5 _ _ (by (try simp only [hd, World.size_alloc]); omega)]; simp [*, World.cell?_alloc_past, World.frozen?_alloc_past]); (try have z531 : w5.cell? ⟨w4.heap.size + 1, 1, none⟩ = some (.slice none 0 0) := by rw [hc5 _ _ (by (try simp only [hd, World.size_alloc]); omega)]; simp [*, World.cell?_alloc_past, World.frozen?_alloc_past]); (try have f531 : w5.frozen? ⟨w4.heap.size + 1, 1, none⟩ = false := by rw [hf5 _ _ (by (try simp only [hd, World.size_alloc]); omega)]; simp [*, World.cell?_alloc_past, World.frozen?_alloc_past]); have s50 := (hT5.cell (p := ⟨w.heap.size, 0, none⟩) (by simp; omega)).trans y0; have s51 := (hT5.cell (p := ⟨w.heap.size, 1, none⟩) (by simp; omega)).trans y1; have s52 := (hT5.cell (p := ⟨w.heap.size + 1, 0, none⟩) (by simp; omega)).trans y2; have s53 := (hT5.cell (p := ⟨w.heap.size + 1, 1, none⟩) (by simp; omega)).trans y3)))
        all_goals
          go_wp2_with fail
          go_meet
          clear ne20 ne21 ne22 ne23 ne40 ne41 ne42 ne43 ne50 ne51 ne52 ne53
          refine TwoCut.mk' HOB1.out HOB2.out hbl1 hbl2 ?_ ?_ ?_ ?_ (HT.out.trans (Below.mono (B := w2.heap.size) ?_ (Nat.le_of_lt (Nat.lt_of_succ_lt HZ3.out)))) ?_ ?_ ?_ ?_
          · (repeat (first | with_reducible exact Far.refl _ _ _ | with_reducible refine Far.below ?_ hb5 | with_reducible refine Far.drew ?_ | with_reducible refine Far.alloc ?_ _ | with_reducible refine Far.setCell ?_ ?_ _ | exact .inl rfl | exact .inr rfl))
          · (repeat (first | with_reducible exact Far.refl _ _ _ | with_reducible refine Far.below ?_ hb5 | with_reducible refine Far.drew ?_ | with_reducible refine Far.alloc ?_ _ | with_reducible refine Far.setCell ?_ ?_ _ | exact .inl rfl | exact .inr rfl))
          · intro g h1 h2; (try simp only [hd, World.size_alloc] at h1 h2 ⊢); omega
          · intro g h1 h2; (try simp only [hd, World.size_alloc] at h1 h2 ⊢); omega
          · (repeat (first | with_reducible exact Below.refl _ _ | with_reducible exact hT5 | with_reducible exact hT4 | with_reducible refine Below.drew ?_ | with_reducible refine Below.alloc ?_ ?_ _ | with_reducible refine Below.setCell ?_ ?_ _ | (first | omega | (simp only [hd, World.size_alloc, World.size_setCell]; done) | (simp only [hd, World.size_alloc, World.size_setCell]; omega))))
          all_goals (repeat (first | with_reducible assumption | with_reducible refine st0 ?_ | with_reducible refine st1 ?_ | (apply Exists.intro; with_reducible assumption) | with_reducible refine ex_far ?_ ?_ | with_reducible refine Eq.trans (st_far ?_) ?_ | with_reducible refine al0 ?_ | with_reducible refine al1 ?_ | with_reducible refine Eq.trans (al_far ?_) ?_ | (first | omega | (simp only [hd, World.size_alloc, World.size_setCell]; done) | (simp only [hd, World.size_alloc, World.size_setCell]; omega))))
      case rest =>
        obtain ⟨A, D, xs, ys, q1, q2, l1, d1, l2, d2, rfl, rfl, hxl, hyl, ⟨ca0, ca1, cd0, cd1⟩, hix, hiy, hbw⟩ := hcut
        clear ne20 ne21 ne22 ne23 hd y0 y1 y2 y3 hz3 HV2 HU2 HT HZ3 HF HF2
        have HIX := Lib.hid hix
        have HIY := Lib.hid hiy
        have HBW := Lib.hid hbw
        clear hix hiy hbw
        have hza : A < wc.drew.heap.size := World.block_lt_of_cell? wc _ ca0
        have hzd : D < wc.drew.heap.size := World.block_lt_of_cell? wc _ cd0
        have c00 : wc.drew.cell? ⟨A, 0, none⟩ = some (.int .u64 (xs.length : Int)) := ca0
        have c01 : wc.drew.cell? ⟨A, 1, none⟩ = some (.slice q1 l1 d1) := ca1
        have c02 : wc.drew.cell? ⟨D, 0, none⟩ = some (.int .u64 (ys.length : Int)) := cd0
        have c03 : wc.drew.cell? ⟨D, 1, none⟩ = some (.slice q2 l2 d2) := cd1
        have HX0 := Lib.hid (HIX.out.below rfl (Below.refl _ _).drew)
        have HY0 := Lib.hid (HIY.out.below rfl (Below.refl _ _).drew)
        clear ca0 ca1 cd0 cd1 HIX HIY
        go_wp2_with fail
        go_region_held3 (fun w' => w'.cell? ⟨A, 0, none⟩ = some (.int .u64 (xs.length : Int)) ∧ w'.cell? ⟨A, 1, none⟩ = some (.slice q1 l1 d1) ∧ w'.cell? ⟨D, 0, none⟩ = some (.int .u64 (ys.length : Int)) ∧ w'.cell? ⟨D, 1, none⟩ = some (.slice q2 l2 d2))
          ((first | exact ⟨by assumption, by assumption, by assumption, by assumption⟩ | go_keep | assumption))
          ((first
            | (go_at_call 14; refine Calls.mono (bscopyfull_any _ _ xs ys _ HX0.out HY0.out (by omega) (by omega)) ?_; rintro e w5 ⟨vf, rfl, hob5, hb5⟩; have HO5 := Lib.hid hob5; have hlt5 := hb5.size; have c50 := (hb5.cell (p := ⟨A, 0, none⟩) (by assumption)).trans c00; have c51 := (hb5.cell (p := ⟨A, 1, none⟩) (by assumption)).trans c01; have c52 := (hb5.cell (p := ⟨D, 0, none⟩) (by assumption)).trans c02; have c53 := (hb5.cell (p := ⟨D, 1, none⟩) (by assumption)).trans c03)
            | (go_at_call 13; refine Calls.mono (same_yes _ _ xs _ HO5.out.is (HX0.out.below rfl hb5)) ?_; rintro e w6 ⟨rfl, hb6⟩; have hlt6 := hb6.size; have c60 := (hb6.cell (p := ⟨A, 0, none⟩) (by simp only []; omega)).trans c50; have c61 := (hb6.cell (p := ⟨A, 1, none⟩) (by simp only []; omega)).trans c51; have c62 := (hb6.cell (p := ⟨D, 0, none⟩) (by simp only []; omega)).trans c52; have c63 := (hb6.cell (p := ⟨D, 1, none⟩) (by simp only []; omega)).trans c53)))
        have HX6 := Lib.hid ((HX0.out.below rfl hb5).below rfl hb6)
        have HY6 := Lib.hid ((HY0.out.below rfl hb5).below rfl hb6)
        have hT6 : Below wc.heap.size wc w6 := ((Below.refl _ _).drew.trans (hb5.mono (Nat.le_refl _))).trans (hb6.mono hlt5)
        have HT6 := Lib.hid (HBW.out.trans (hT6.mono HBW.out.size))
        have hA6 : A < w6.heap.size := by omega
        have hD6 : D < w6.heap.size := by omega
        clear hT6 hob5 hb5 hb6 c50 c51 c52 c53 c00 c01 c02 c03 HX0 HY0 hlt5 hlt6 HO5 HBW hza hzd
        go_upto_region 6 with fail
        go_cut [45] (fun s45 wx => MidCut xs ys w6 s45 wx)
        case first =>
          by_cases hyx : ys.length ≤ xs.length
          · have hd : decide ((xs.length : Int) < (ys.length : Int)) = false := by simp; omega
            go_wp2_with fail
            go_meet
            exact ⟨false, rfl, rfl, fun _ => .inl hyx⟩
          · have hd : decide ((xs.length : Int) < (ys.length : Int)) = true := by simp; omega
            by_cases hm1 : xs.length % 64 = 0
            · have hm1a : ((xs.length : Int) % 64 == 0) = true := by simp; omega
              have hm1b : ((xs.length : Int) % 64 != 0) = false := by simp; omega
              by_cases hm2 : ys.length % 64 = 0
              · have hm2a : ((ys.length : Int) % 64 == 0) = true := by simp; omega
                have hm2b : ((ys.length : Int) % 64 != 0) = false := by simp; omega
                have HM := Lib.hid (And.intro hm2 hm1)
                clear hm1 hm2
                go_wp2_with fail
                go_meet
                exact ⟨false, rfl, rfl, fun _ => .inr HM.out⟩
              · have hm2a : ((ys.length : Int) % 64 == 0) = false := by simp; omega
                have hm2b : ((ys.length : Int) % 64 != 0) = true := by simp; omega
                clear hm1 hm2
                go_wp2_with fail
                go_meet
                exact ⟨true, rfl, rfl, fun h => by cases h⟩
            · have hm1a : ((xs.length : Int) % 64 == 0) = false := by simp; omega
              have hm1b : ((xs.length : Int) % 64 != 0) = true := by simp; omega
              clear hm1
              go_wp2_with fail
              go_meet
              exact ⟨true, rfl, rfl, fun h => by cases h⟩
        case rest =>
          obtain ⟨b9, rfl, hwx, hok⟩ := hcut
          subst hwx
          have HOKB := Lib.hid hok
          clear hok
          cases b9
          case true =>
            go_wp2_with fail
            go_ret
            exact ⟨rfl, HT6.out⟩
          have HOK := Lib.hid (HOKB.out rfl)
          clear HOKB
          go_upto_region 8 with fail
          go_cut [7] (fun s7 wx => MinCut xs ys wc s7 wx)
          case first =>
            by_cases hyx2 : ys.length < xs.length
            · have hd2 : decide ((ys.length : Int) < (xs.length : Int)) = true := by simp; omega
              go_wp2_with fail
              go_meet
              exact ⟨ys.length, rfl, by omega, rfl⟩
            · have hd2 : decide ((ys.length : Int) < (xs.length : Int)) = false := by simp; omega
              go_wp2_with fail
              go_meet
              exact ⟨xs.length, rfl, by omega, rfl⟩
          case rest =>
            obtain ⟨N, rfl, hmn, hwx⟩ := hcut
            subst hwx
            have HMIN := Lib.hid hmn
            clear hmn
            go_wp2_with fail
            refine (bscopy_any _ _ xs ys _ HX6.out HY6.out (by omega) (by omega) HOK.out).mono ?_
            rintro e w7 ⟨vg, rfl, hob7, hb7⟩
            rw [HMIN.out] at hob7 ⊢
            have hcl : (xs.take N ++ ys.drop N).length = ys.length := by have := want_len xs ys; unfold want at this; rwa [HMIN.out] at this
            obtain ⟨cs, hcs⟩ : ∃ cs, xs.take N ++ ys.drop N = cs := ⟨_, rfl⟩
            rw [hcs] at hob7 hcl
            have HCS := Lib.hid hcs
            have HO7 := Lib.hid hob7
            obtain ⟨p3, m3, c3, rfl, _⟩ := hob7
            rw [hcl] at HO7 ⊢
            have HX7 := Lib.hid (HX6.out.below rfl hb7)
            have HY7 := Lib.hid (HY6.out.below rfl hb7)
            have HT7 := Lib.hid (HT6.out.trans (hb7.mono HT6.out.size))
            have hlt7 := hb7.size
            have c70 := (hb7.cell (p := ⟨A, 0, none⟩) (by simp only []; omega)).trans c60
            have c71 := (hb7.cell (p := ⟨A, 1, none⟩) (by simp only []; omega)).trans c61
            have c72 := (hb7.cell (p := ⟨D, 0, none⟩) (by simp only []; omega)).trans c62
            have c73 := (hb7.cell (p := ⟨D, 1, none⟩) (by simp only []; omega)).trans c63
            clear hcs hb7 c60 c61 c62 c63
            go_wp2_with fail
            obtain ⟨wR, hwR⟩ : ∃ wR, wR = w7.alloc (.cells #[.int .u64 (ys.length : Int), .slice p3 m3 c3] 25) := ⟨_, rfl⟩
            have hbR : Below w7.heap.size w7 wR := by rw [hwR]; exact (Below.refl _ _).alloc (Nat.le_refl _) _
            have hzR : wR.heap.size = w7.heap.size + 1 := by rw [hwR]; simp
            have HXR := Lib.hid (HX7.out.below rfl hbR)
            have HYR := Lib.hid (HY7.out.below rfl hbR)
            have HGR := Lib.hid (HO7.out.is.below rfl hbR)
            have HTR := Lib.hid (HT7.out.trans (hbR.mono HT7.out.size))
            have hA9 : A < wR.heap.size := by omega
            have hD9 : D < wR.heap.size := by omega
            have hR9 : w7.heap.size < wR.heap.size := by omega
            have x00 := (hbR.cell (p := ⟨A, 0, none⟩) (by simp only []; omega)).trans c70
            have x01 := (hbR.cell (p := ⟨A, 1, none⟩) (by simp only []; omega)).trans c71
            have x02 := (hbR.cell (p := ⟨D, 0, none⟩) (by simp only []; omega)).trans c72
            have x03 := (hbR.cell (p := ⟨D, 1, none⟩) (by simp only []; omega)).trans c73
            have x04 : wR.cell? ⟨w7.heap.size, 0, none⟩ = some (.int .u64 (ys.length : Int)) := by rw [hwR]; exact (Blk.new w7 25 #[.int .u64 (ys.length : Int), .slice p3 m3 c3]).cell 0 rfl
            have x05 : wR.cell? ⟨w7.heap.size, 1, none⟩ = some (.slice p3 m3 c3) := by rw [hwR]; exact (Blk.new w7 25 #[.int .u64 (ys.length : Int), .slice p3 m3 c3]).cell 1 rfl
            rw [← hwR]
            obtain ⟨R, hRR⟩ : ∃ R, w7.heap.size = R := ⟨_, rfl⟩
            rw [hRR] at x04 x05 hR9 ⊢
            have nA : ¬ wR.heap.size = A := by omega
            have nD : ¬ wR.heap.size = D := by omega
            have nR : ¬ wR.heap.size = R := by omega
            have hNx : N ≤ xs.length := by have := HMIN.out; omega
            have hNy : N ≤ ys.length := by have := HMIN.out; omega
            have l1 : (bools (xs.take N)).length = N := by rw [bools_len, List.length_take]; omega
            have l2 : (bools (ys.drop N)).length = ys.length - N := by rw [bools_len, List.length_drop]
            have L1 := Lib.hid l1
            have L2' := Lib.hid l2
            have hN0 : (0 : Int) ≤ (N : Int) := by omega
            have HCL := Lib.hid hcl
            clear hwR hbR hzR c70 c71 c72 c73 l1 l2 hRR hcl HV HU HB0 K0 K1 hmm hmm2 HX6 HY6 HT6 HX7 HY7 HT7 HO7 hlt7 hA6 hD6 HOK
            go_cut [10] (fun s10 wx => WantCut w R cs s10 wx)
            case first =>
              go_region_held3 (fun w' => w'.cell? ⟨A, 0, none⟩ = some (.int .u64 (xs.length : Int)) ∧ w'.cell? ⟨A, 1, none⟩ = some (.slice q1 l1 d1) ∧ w'.cell? ⟨D, 0, none⟩ = some (.int .u64 (ys.length : Int)) ∧ w'.cell? ⟨D, 1, none⟩ = some (.slice q2 l2 d2))
                ((first | exact ⟨by assumption, by assumption, by assumption, by assumption⟩ | go_keep | assumption))
                ((first
                  | ((fail_if_success (have tok := hb5)); go_at_call 16; refine Calls.mono (bools_any _ xs _ ?_ (by omega)) ?_; (first | exact HXR.out.below rfl (Below.refl _ _).drew | exact HXR.out.below rfl (((Below.refl _ _).alloc (Nat.le_refl _) _).drew)); rintro e w5 ⟨v5, rfl, hown5, hb5⟩; (first | (have hq5 := hb5; rw [show wR.drew.heap.size = wR.heap.size from rfl] at hq5; have hT5 : Below wR.heap.size wR w5 := (Below.refl wR.heap.size wR).drew.trans hq5; clear hq5; have tokB := True.intro) | (have hT5 : Below wR.heap.size wR w5 := (by exact (((Below.refl _ wR).alloc (Nat.le_refl _) _).drew).trans (hb5.mono (by simp))); have tokA := True.intro)); have hs5 := Sl.of_owns hown5; obtain ⟨a5, n5, cap5, rfl, hl5, hc5, _⟩ := Sl.of_owns hown5; (rw [bools_len] at hl5); have ht5 := hs5.take N (by omega); (rw [show (bools xs).take N = bools (xs.take N) from by simp [bools, List.map_take]] at ht5); have HS5 := Lib.hid ht5; have hsl1 := (fun W => run_bslice_to a5 n5 cap5 N .u64 (N : Int) rfl (by omega) W); have hNc5 : (N : Int) ≤ (cap5 : Int) := (by omega); have HT5 := Lib.hid hT5; have hz5 := hT5.size; have x50 := (hT5.cell (p := ⟨A, 0, none⟩) (by assumption)).trans x00; have x51 := (hT5.cell (p := ⟨A, 1, none⟩) (by assumption)).trans x01; have x52 := (hT5.cell (p := ⟨D, 0, none⟩) (by assumption)).trans x02; have x53 := (hT5.cell (p := ⟨D, 1, none⟩) (by assumption)).trans x03; have x54 := (hT5.cell (p := ⟨R, 0, none⟩) (by assumption)).trans x04; have x55 := (hT5.cell (p := ⟨R, 1, none⟩) (by assumption)).trans x05; clear hs5 ht5 hown5 hl5)
                  | ((have tok := tokA); (fail_if_success (have tok := hb6)); refine step_appendSl (by rfl) (.tmp 57) (.tmp 61) 32 32 (by rfl) wR.heap.size 4 4 (.bool false) 1 Try.underlying32 Try.underlying32 info_bool rfl (.slice (some ⟨wR.heap.size, 0, none⟩) 0 0) 0 [] (by rfl) (ownsRow_below (ownsRow_drewn (empty_own wR _ _ (Nat.le_refl _))) hb5) (.slice a5 N cap5) (bools (xs.take N)) (by rfl) HS5.out (bool_cells _) (by rw [L1.out]; unfold maxLen; omega) (by rw [L1.out]; omega) hz5 ?_; intro p6 m6 cap6 w6 hown6 _ hb6; (rw [L1.out, Nat.zero_add, List.nil_append] at hown6); have HO6 := Lib.hid hown6; have hT6 : Below wR.heap.size wR w6 := HT5.out.trans hb6; have HT6 := Lib.hid hT6; have hz6 := hT6.size; have x60 := (hT6.cell (p := ⟨A, 0, none⟩) (by assumption)).trans x00; have x61 := (hT6.cell (p := ⟨A, 1, none⟩) (by assumption)).trans x01; have x62 := (hT6.cell (p := ⟨D, 0, none⟩) (by assumption)).trans x02; have x63 := (hT6.cell (p := ⟨D, 1, none⟩) (by assumption)).trans x03; have x64 := (hT6.cell (p := ⟨R, 0, none⟩) (by assumption)).trans x04; have x65 := (hT6.cell (p := ⟨R, 1, none⟩) (by assumption)).trans x05; clear hown6 hsl1)
                  | ((have tok := tokB); (fail_if_success (have tok := hb6)); refine step_appendSl (by rfl) (.tmp 57) (.tmp 61) 32 32 (by rfl) wR.heap.size 4 4 (.bool false) 1 Try.underlying32 Try.underlying32 info_bool rfl (.slice (some ⟨w5.heap.size, 0, none⟩) 0 0) 0 [] (by rfl) (empty_own w5 _ _ hz5) (.slice a5 N cap5) (bools (xs.take N)) (by rfl) (HS5.out.below rfl ((Below.refl _ _).alloc (Nat.le_refl _) _)) (bool_cells _) (by rw [L1.out]; unfold maxLen; omega) (by rw [L1.out]; omega) (by simp; omega) ?_; intro p6 m6 cap6 w6 hown6 _ hb6; (rw [L1.out, Nat.zero_add, List.nil_append] at hown6); have HO6 := Lib.hid hown6; have hT6 : Below wR.heap.size wR w6 := (HT5.out.alloc hz5 _).trans hb6; have HT6 := Lib.hid hT6; have hz6 := hT6.size; have x60 := (hT6.cell (p := ⟨A, 0, none⟩) (by assumption)).trans x00; have x61 := (hT6.cell (p := ⟨A, 1, none⟩) (by assumption)).trans x01; have x62 := (hT6.cell (p := ⟨D, 0, none⟩) (by assumption)).trans x02; have x63 := (hT6.cell (p := ⟨D, 1, none⟩) (by assumption)).trans x03; have x64 := (hT6.cell (p := ⟨R, 0, none⟩) (by assumption)).trans x04; have x65 := (hT6.cell (p := ⟨R, 1, none⟩) (by assumption)).trans x05; clear hown6 hsl1)
                  | ((have tok := hb6); (fail_if_success (have tok := hb8)); go_at_call 16; refine Calls.mono (bools_any _ ys _ (HYR.out.below rfl HT6.out) (by omega)) ?_; rintro e w8 ⟨v8, rfl, hown8, hb8⟩; have hT8 : Below wR.heap.size wR w8 := HT6.out.trans (hb8.mono hz6); have HO8 := Lib.hid (ownsRow_below HO6.out hb8); have hs8 := Sl.of_owns hown8; obtain ⟨a8, n8, cap8, rfl, hl8, hc8, _⟩ := Sl.of_owns hown8; (rw [bools_len] at hl8); obtain ⟨a8', ha8, hsl2⟩ := run_bslice_from a8 n8 cap8 N .u64 (N : Int) rfl (by omega) hc8; have ht8 := hs8.drop N (by omega) ha8; (rw [show (bools ys).drop N = bools (ys.drop N) from by simp [bools, List.map_drop]] at ht8); have HS8 := Lib.hid ht8; have hNc8 : (N : Int) ≤ (n8 : Int) := (by omega); have HT8 := Lib.hid hT8; have hz8 := hT8.size; have x80 := (hT8.cell (p := ⟨A, 0, none⟩) (by assumption)).trans x00; have x81 := (hT8.cell (p := ⟨A, 1, none⟩) (by assumption)).trans x01; have x82 := (hT8.cell (p := ⟨D, 0, none⟩) (by assumption)).trans x02; have x83 := (hT8.cell (p := ⟨D, 1, none⟩) (by assumption)).trans x03; have x84 := (hT8.cell (p := ⟨R, 0, none⟩) (by assumption)).trans x04; have x85 := (hT8.cell (p := ⟨R, 1, none⟩) (by assumption)).trans x05; clear hs8 ht8 hown8 ha8 hl8)
                  | ((have tok := hb8); refine step_appendSl (by rfl) (.tmp 62) (.tmp 66) 32 32 (by rfl) wR.heap.size 4 4 (.bool false) 1 Try.underlying32 Try.underlying32 info_bool rfl (.slice p6 m6 cap6) N (bools (xs.take N)) (by rfl) HO8.out (.slice a8' (n8 - N) (cap8 - N)) (bools (ys.drop N)) (by rfl) HS8.out (bool_cells _) (by rw [L2'.out]; unfold maxLen; omega) (by rw [L2'.out]; omega) hz8 ?_; intro p9 m9 cap9 w9 hown9 _ hb9; have HO9 := Lib.hid hown9; have hT9 : Below wR.heap.size wR w9 := HT8.out.trans hb9; have HT9 := Lib.hid hT9; have hz9 := hT9.size; have x90 := (hT9.cell (p := ⟨A, 0, none⟩) (by assumption)).trans x00; have x91 := (hT9.cell (p := ⟨A, 1, none⟩) (by assumption)).trans x01; have x92 := (hT9.cell (p := ⟨D, 0, none⟩) (by assumption)).trans x02; have x93 := (hT9.cell (p := ⟨D, 1, none⟩) (by assumption)).trans x03; have x94 := (hT9.cell (p := ⟨R, 0, none⟩) (by assumption)).trans x04; have x95 := (hT9.cell (p := ⟨R, 1, none⟩) (by assumption)).trans x05; clear hown9)))
              all_goals
                go_wp2_with fail
                go_meet
                refine ⟨p9, p3, m9, cap9, m3, c3, rfl, ?_, ?_, ?_, ?_, ?_⟩
                · have := Sl.of_owns HO9.out
                  rw [show bools (xs.take N) ++ bools (ys.drop N) = bools cs from by rw [← HCS.out]; simp [bools]] at this
                  exact this
                · rw [HCL.out]; exact x94
                · exact x95
                · rw [HCL.out]; exact HGR.out.below rfl HT9.out
                · exact HTR.out.trans (HT9.out.mono HTR.out.size)
            case rest =>
              obtain ⟨p9, p3', m9, c9, m3', c3', rfl, hsw, y0, y1, hgi, hbw⟩ := hcut
              have hcs400 : cs.length ≤ 400 := by have := HCL.out; omega
              have HSW := Lib.hid hsw
              have HGI := Lib.hid hgi
              have HBX := Lib.hid hbw
              have HCL2 := Lib.hid HCL.out
              have hRz : R < wc.drew.heap.size := World.block_lt_of_cell? wc _ y0
              have z00 : wc.drew.cell? ⟨R, 0, none⟩ = some (.int .u64 (cs.length : Int)) := y0
              have z01 : wc.drew.cell? ⟨R, 1, none⟩ = some (.slice p3' m3' c3') := y1
              have HS0 := Lib.hid (HSW.out.below rfl (Below.refl _ _).drew)
              have HG0 := Lib.hid (HGI.out.below rfl (Below.refl _ _).drew)
              have hEQ : ((N : Int) == (N : Int)) = true := by simp
              clear hsw hgi hbw HSW HGI HCL HXR HYR HGR x00 x01 x02 x03 x04 x05 nA nD nR y0 y1 L1 L2' hRz hA9 hD9 hR9
              have hRz : R < wc.drew.heap.size := World.block_lt_of_cell? wc.drew _ z00
              go_wp2_with fail
              go_region_held3 (fun w' => w'.cell? ⟨R, 0, none⟩ = some (.int .u64 (cs.length : Int)) ∧ w'.cell? ⟨R, 1, none⟩ = some (.slice p3' m3' c3'))
                ((first | go_keep | exact ⟨by assumption, by assumption⟩ | assumption))
                ((first
                  | (go_at_call 17; refine Calls.mono (make_any _ cs _ HS0.out (by omega)) ?_; rintro e wa ⟨vm, rfl, hoba, hba⟩; have HOa := Lib.hid hoba; have hza := hba.size; have za0 := (hba.cell (p := ⟨R, 0, none⟩) (by assumption)).trans z00; have za1 := (hba.cell (p := ⟨R, 1, none⟩) (by assumption)).trans z01)
                  | (go_at_call 13; refine Calls.mono (same_yes _ _ cs _ (HG0.out.below rfl hba) HOa.out.is) ?_; rintro e wb ⟨rfl, hbb⟩; have zb0 := (hbb.cell (p := ⟨R, 0, none⟩) (by simp only []; omega)).trans za0; have zb1 := (hbb.cell (p := ⟨R, 1, none⟩) (by simp only []; omega)).trans za1)))
              go_wp2_with fail
              go_ret
              exact ⟨rfl, HBX.out.trans ((((Below.refl _ _).drew.trans (hba.mono (Nat.le_refl _))).trans (hbb.mono hza)).mono HBX.out.size)⟩
    · have HF := Lib.hid (show decide ((m : Int) ≤ 2147483647) = true by simpa using hf)
      have HF2 := Lib.hid (show decide ((m2 : Int) ≤ 2147483647) = false by simpa using hf2)
      clear hf hf2
      go_enter Try.func3, Try.ntmps3
      go_wp2_with fail
      refine (fits_any _ a m cap _ hmm).mono ?_
      rintro e w1 ⟨rfl, hb1⟩
      rw [HF.out]
      have hz1 := hb1.size
      simp only [World.size_alloc] at hz1
      have x2 : w1.cell? ⟨w.heap.size + 1, 0, none⟩ = some (.int .u64 (L2 : Int)) := (K1.out.below hb1 (by simp)).cell 0 rfl
      have x3 : w1.cell? ⟨w.heap.size + 1, 1, none⟩ = some (.slice a2 m2 cap2) := (K1.out.below hb1 (by simp)).cell 1 rfl
      go_wp2_with fail
      refine (fits_any _ a2 m2 cap2 _ hmm2).mono ?_
      rintro e w2 ⟨rfl, hb2⟩
      rw [HF2.out]
      go_wp2_with fail
      go_ret
      exact ⟨rfl, HB0.out.trans ((hb1.mono (by simp; omega)).trans (hb2.mono (by omega)))⟩
  · have HF := Lib.hid (show decide ((m : Int) ≤ 2147483647) = false by simpa using hf)
    clear hf
    go_enter Try.func3, Try.ntmps3
    go_wp2_with fail
    refine (fits_any _ a m cap _ hmm).mono ?_
    rintro e w1 ⟨rfl, hb1⟩
    rw [HF.out]
    go_wp2_with fail
    go_ret
    exact ⟨rfl, HB0.out.trans (hb1.mono (by simp; omega))⟩
end Go.Proofs.Ytbcbkieebelleaa
