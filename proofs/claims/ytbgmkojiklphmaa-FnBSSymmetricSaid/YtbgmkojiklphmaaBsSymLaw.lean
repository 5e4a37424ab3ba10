/- The walk of the law FnBSSymmetric: it returns true at every input. -/
import Derived.Test.YtbgmkojiklphmaaBsTwoHead
import Derived.Test.YtbgmkojiklphmaaBsSymImpl
import Derived.Deep.RegionHeld3
import Derived.Deep.DeepCutAuto
import Derived.Outline
namespace Go.Proofs.Ytbgmkojiklphmaa
set_option linter.unusedVariables false
open Go.RowKit

set_option maxRecDepth 100000 in
set_option maxHeartbeats 16000000 in
theorem law_bssym (v u : Value) (w : World) (hv : AnyBits w v) (hu : AnyBits w u) :
    Calls Try.prog 15 #[v, u] w fun e w' => e = .returned (.bool true) ∧ Below w.heap.size w w' := by
  have HV0 := hv
  have HU0 := hu
  obtain ⟨L, s, xs, rfl, hL, hs, hx⟩ := hv
  obtain ⟨a, m, cap, rfl, hl, hc, hm, hr⟩ := hs
  obtain ⟨L2, s2, ys, rfl, hL2, hs2, hx2⟩ := hu
  obtain ⟨a2, m2, cap2, rfl, hl2, hc2, hm2, hr2⟩ := hs2
  have hmm : m ≤ maxLen := by omega
  have hmm2 : m2 ≤ maxLen := by omega
  have hb0 : Below w.heap.size w ((w.alloc (.cells #[.int .u64 (L : Int), .slice a m cap] 25)).alloc (.cells #[.int .u64 (L2 : Int), .slice a2 m2 cap2] 25)) := ((Below.refl _ _).alloc (Nat.le_refl _) _).alloc (by simp) _
  have HV := Lib.hid (HV0.below rfl hb0)
  have HU := Lib.hid (HU0.below rfl hb0)
  have HB0 := Lib.hid hb0
  have k1 := Blk.new (w.alloc (.cells #[.int .u64 (L : Int), .slice a m cap] 25)) 25 #[.int .u64 (L2 : Int), .slice a2 m2 cap2]
  have k0 := (Blk.new w 25 #[.int .u64 (L : Int), .slice a m cap]).alloc (.cells #[.int .u64 (L2 : Int), .slice a2 m2 cap2] 25)
  rw [World.size_alloc] at k1
  have K0 := Lib.hid k0
  have K1 := Lib.hid k1
  clear HV0 HU0 hL hx hl hc hm hr hL2 hx2 hl2 hc2 hm2 hr2 hb0 k0 k1
  by_cases hf : (m : Int) ≤ 2147483647
  · by_cases hf2 : (m2 : Int) ≤ 2147483647
    · have HF := Lib.hid (show decide ((m : Int) ≤ 2147483647) = true by simpa using hf)
      have HF2 := Lib.hid (show decide ((m2 : Int) ≤ 2147483647) = true by simpa using hf2)
      clear hf hf2
      go_enter Try.func15, Try.ntmps15
      go_wp2_with fail
      refine (fits_any _ a m cap _ hmm).mono ?_
      rintro e w1 ⟨rfl, hb1⟩
      rw [HF.out]
      have hz1 := hb1.size
      simp only [World.size_alloc] at hz1
      have x0 : w1.cell? ⟨w.heap.size, 0, none⟩ = some (.int .u64 (L : Int)) := (K0.out.below hb1 (by simp; omega)).cell 0 rfl
      have x1 : w1.cell? ⟨w.heap.size, 1, none⟩ = some (.slice a m cap) := (K0.out.below hb1 (by simp; omega)).cell 1 rfl
      have x2 : w1.cell? ⟨w.heap.size + 1, 0, none⟩ = some (.int .u64 (L2 : Int)) := (K1.out.below hb1 (by simp)).cell 0 rfl
      have x3 : w1.cell? ⟨w.heap.size + 1, 1, none⟩ = some (.slice a2 m2 cap2) := (K1.out.below hb1 (by simp)).cell 1 rfl
      go_wp2_with fail
      refine (fits_any _ a2 m2 cap2 _ hmm2).mono ?_
      rintro e w2 ⟨rfl, hb2⟩
      rw [HF2.out]
      have hz2 := hb2.size
      have y0 := (hb2.cell (p := ⟨w.heap.size, 0, none⟩) (by simp; omega)).trans x0
      have y1 := (hb2.cell (p := ⟨w.heap.size, 1, none⟩) (by simp; omega)).trans x1
      have y2 := (hb2.cell (p := ⟨w.heap.size + 1, 0, none⟩) (by simp; omega)).trans x2
      have y3 := (hb2.cell (p := ⟨w.heap.size + 1, 1, none⟩) (by simp; omega)).trans x3
      have HV2 := Lib.hid ((HV.out.below rfl hb1).below rfl hb2)
      have HU2 := Lib.hid ((HU.out.below rfl hb1).below rfl hb2)
      have HT := Lib.hid (HB0.out.trans ((hb1.mono (by simp; omega)).trans (hb2.mono (by omega))))
      have hz3 : w.heap.size + 1 < w2.heap.size := by omega
      have HZ3 := Lib.hid hz3
      have ne20 : ¬ w2.heap.size = w.heap.size := (by omega)
      have ne21 : ¬ w2.heap.size = w.heap.size + 1 := (by omega)
      have ne22 : ¬ w2.heap.size + 1 = w.heap.size := (by omega)
      have ne23 : ¬ w2.heap.size + 1 = w.heap.size + 1 := (by omega)
      have hd : ∀ W : World, W.drew.heap.size = W.heap.size := fun _ => rfl
      clear x0 x1 x2 x3 hb1 hb2 hz1 hz2
      go_upto_region 3 with fail
      go_cut [5, 6] (fun s5 s6 wx => TwoCut w s5 s6 wx)
      case first =>
        go_region_held3 (fun w' => w'.cell? ⟨w.heap.size, 0, none⟩ = some (.int .u64 (L : Int)) ∧ w'.cell? ⟨w.heap.size, 1, none⟩ = some (.slice a m cap) ∧ w'.cell? ⟨w.heap.size + 1, 0, none⟩ = some (.int .u64 (L2 : Int)) ∧ w'.cell? ⟨w.heap.size + 1, 1, none⟩ = some (.slice a2 m2 cap2))
          ((first | go_keep | exact ⟨by assumption, by assumption, by assumption, by assumption⟩ | assumption))
          ((first
            | ((fail_if_success (have tok := hb4)); go_at_call 17; refine Calls.mono (bits_any _ _ ?_) ?_; exact HV2.out.below rfl (by (repeat (first | with_reducible exact Below.refl _ _ | with_reducible exact hT5 | with_reducible exact hT4 | with_reducible refine Below.drew ?_ | with_reducible refine Below.alloc ?_ ?_ _ | with_reducible refine Below.setCell ?_ ?_ _ | (first | omega | (simp only [hd, World.size_alloc, World.size_setCell]; done) | (simp only [hd, World.size_alloc, World.size_setCell]; omega))))); rintro e w4 ⟨va, bs1, rfl, hbl1, hob1, hb4⟩; have hT4 : Below w2.heap.size w2 w4 := Below.trans (by (repeat (first | with_reducible exact Below.refl _ _ | with_reducible exact hT5 | with_reducible exact hT4 | with_reducible refine Below.drew ?_ | with_reducible refine Below.alloc ?_ ?_ _ | with_reducible refine Below.setCell ?_ ?_ _ | (first | omega | (simp only [hd, World.size_alloc, World.size_setCell]; done) | (simp only [hd, World.size_alloc, World.size_setCell]; omega))))) (hb4.mono (by (try simp only [hd, World.size_alloc]); omega)); have hz4 := hT4.size; have ne40 : ¬ w4.heap.size = w.heap.size := (by omega); have ne41 : ¬ w4.heap.size = w.heap.size + 1 := (by omega); have ne42 : ¬ w4.heap.size + 1 = w.heap.size := (by omega); have ne43 : ¬ w4.heap.size + 1 = w.heap.size + 1 := (by omega); have HOB1 := Lib.hid hob1; obtain ⟨q1, l1, d1, rfl, _⟩ := hob1; obtain ⟨hc4, hf4⟩ := bcell hb4; (try have z400 : w4.cell? ⟨w2.heap.size, 0, none⟩ = some (.int .u64 0) := by rw [hc4 _ _ (by (try simp only [hd, World.size_alloc]); omega)]; simp [*, World.cell?_alloc_past, World.frozen?_alloc_past]); (try have n40 := World.block_lt_of_cell? w4 _ z400); (try have f400 : w4.frozen? ⟨w2.heap.size, 0, none⟩ = false := by rw [hf4 _ _ (by (try simp only [hd, World.size_alloc]); omega)]; simp [*, World.cell?_alloc_past, World.frozen?_alloc_past]); (try have z401 : w4.cell? ⟨w2.heap.size, 1, none⟩ = some (.slice none 0 0) := by rw [hc4 _ _ (by (try simp only [hd, World.size_alloc]); omega)]; simp [*, World.cell?_alloc_past, World.frozen?_alloc_past]); (try have f401 : w4.frozen? ⟨w2.heap.size, 1, none⟩ = false := by rw [hf4 _ _ (by (try simp only [hd, World.size_alloc]); omega)]; simp [*, World.cell?_alloc_past, World.frozen?_alloc_past]); (try have z410 : w4.cell? ⟨w2.heap.size + 1, 0, none⟩ = some (.int .u64 0) := by rw [hc4 _ _ (by (try simp only [hd, World.size_alloc]); omega)]; simp [*, World.cell?_alloc_past, World.frozen?_alloc_past]); (try have n41 := World.block_lt_of_cell? w4 _ z410); (try have f410 : w4.frozen? ⟨w2.heap.size + 1, 0, none⟩ = false := by rw [hf4 _ _ (by (try simp only [hd, World.size_alloc]); omega)]; simp [*, World.cell?_alloc_past, World.frozen?_alloc_past]); (try have z411 : w4.cell? ⟨w2.heap.size + 1, 1, none⟩ = some (.slice none 0 0) := by rw [hc4 _ _ (by (try simp only [hd, World.size_alloc]); omega)]; simp [*, World.cell?_alloc_past, World.frozen?_alloc_past]); (try have f411 : w4.frozen? ⟨w2.heap.size + 1, 1, none⟩ = false := by rw [hf4 _ _ (by (try simp only [hd, World.size_alloc]); omega)]; simp [*, World.cell?_alloc_past, World.frozen?_alloc_past]); have s40 := (hT4.cell (p := ⟨w.heap.size, 0, none⟩) (by simp; omega)).trans y0; have s41 := (hT4.cell (p := ⟨w.heap.size, 1, none⟩) (by simp; omega)).trans y1; have s42 := (hT4.cell (p := ⟨w.heap.size + 1, 0, none⟩) (by simp; omega)).trans y2; have s43 := (hT4.cell (p := ⟨w.heap.size + 1, 1, none⟩) (by simp; omega)).trans y3)
            | (go_at_call 17; refine Calls.mono (bits_any _ _ ?_) ?_; exact HU2.out.below rfl (by (repeat (first | with_reducible exact Below.refl _ _ | with_reducible exact hT5 | with_reducible exact hT4 | with_reducible refine Below.drew ?_ | with_reducible refine Below.alloc ?_ ?_ _ | with_reducible refine Below.setCell ?_ ?_ _ | (first | omega | (simp only [hd, World.size_alloc, World.size_setCell]; done) | (simp only [hd, World.size_alloc, World.size_setCell]; omega))))); rintro e w5 ⟨vb, bs2, rfl, hbl2, hob2, hb5⟩; have hT5 : Below w2.heap.size w2 w5 := Below.trans (by (repeat (first | with_reducible exact Below.refl _ _ | with_reducible exact hT5 | with_reducible exact hT4 | with_reducible refine Below.drew ?_ | with_reducible refine Below.alloc ?_ ?_ _ | with_reducible refine Below.setCell ?_ ?_ _ | (first | omega | (simp only [hd, World.size_alloc, World.size_setCell]; done) | (simp only [hd, World.size_alloc, World.size_setCell]; omega))))) (hb5.mono (by (try simp only [hd, World.size_alloc]); omega)); have hz5 : w4.heap.size ≤ w5.heap.size := (by have := hb5.size; (try simp only [hd, World.size_alloc] at this); omega); have HOB2 := Lib.hid hob2; obtain ⟨q2, l2, d2, rfl, _⟩ := hob2; have ne50 : ¬ w5.heap.size = w.heap.size := (by omega); have ne51 : ¬ w5.heap.size = w.heap.size + 1 := (by omega); have ne52 : ¬ w5.heap.size + 1 = w.heap.size := (by omega); have ne53 : ¬ w5.heap.size + 1 = w.heap.size + 1 := (by omega); obtain ⟨hc5, hf5⟩ := bcell hb5; (try have z500 : w5.cell? ⟨w2.heap.size, 0, none⟩ = some (.int .u64 0) := by rw [hc5 _ _ (by (try simp only [hd, World.size_alloc]); omega)]; simp [*, World.cell?_alloc_past, World.frozen?_alloc_past]); (try have n50 := World.block_lt_of_cell? w5 _ z500); (try have f500 : w5.frozen? ⟨w2.heap.size, 0, none⟩ = false := by rw [hf5 _ _ (by (try simp only [hd, World.size_alloc]); omega)]; simp [*, World.cell?_alloc_past, World.frozen?_alloc_past]); (try have z501 : w5.cell? ⟨w2.heap.size, 1, none⟩ = some (.slice none 0 0) := by rw [hc5 _ _ (by (try simp only [hd, World.size_alloc]); omega)]; simp [*, World.cell?_alloc_past, World.frozen?_alloc_past]); (try have f501 : w5.frozen? ⟨w2.heap.size, 1, none⟩ = false := by rw [hf5 _ _ (by (try simp only [hd, World.size_alloc]); omega)]; simp [*, World.cell?_alloc_past, World.frozen?_alloc_past]); (try have z510 : w5.cell? ⟨w2.heap.size + 1, 0, none⟩ = some (.int .u64 0) := by rw [hc5 _ _ (by (try simp only [hd, World.size_alloc]); omega)]; simp [*, World.cell?_alloc_past, World.frozen?_alloc_past]); (try have n51 := World.block_lt_of_cell? w5 _ z510); (try have f510 : w5.frozen? ⟨w2.heap.size + 1, 0, none⟩ = false := by rw [hf5 _ _ (by (try simp only [hd, World.size_alloc]); omega)]; simp [*, World.cell?_alloc_past, World.frozen?_alloc_past]); (try have z511 : w5.cell? ⟨w2.heap.size + 1, 1, none⟩ = some (.slice none 0 0) := by rw [hc5 _ _ (by (try simp only [hd, World.size_alloc]); omega)]; simp [*, World.cell?_alloc_past, World.frozen?_alloc_past]); (try have f511 : w5.frozen? ⟨w2.heap.size + 1, 1, none⟩ = false := by rw [hf5 _ _ (by (try simp only [hd, World.size_alloc]); omega)]; simp [*, World.cell?_alloc_past, World.frozen?_alloc_past]); (try have z520 : w5.cell? ⟨w4.heap.size, 0, none⟩ = some (.int .u64 0) := by rw [hc5 _ _ (by (try simp only [hd, World.size_alloc]); omega)]; simp [*, World.cell?_alloc_past, World.frozen?_alloc_past]); (try have n52 := World.block_lt_of_cell? w5 _ z520); (try have f520 : w5.frozen? ⟨w4.heap.size, 0, none⟩ = false := by rw [hf5 _ _ (by (try simp only [hd, World.size_alloc]); omega)]; simp [*, World.cell?_alloc_past, World.frozen?_alloc_past]); (try have z521 : w5.cell? ⟨w4.heap.size, 1, none⟩ = some (.slice none 0 0) := by rw [hc5 _ _ (by (try simp only [hd, World.size_alloc]); omega)]; simp [*, World.cell?_alloc_past, World.frozen?_alloc_past]); (try have f521 : w5.frozen? ⟨w4.heap.size, 1, none⟩ = false := by rw [hf5 _ _ (by (try simp only [hd, World.size_alloc]); omega)]; simp [*, World.cell?_alloc_past, World.frozen?_alloc_past]); (try have z530 : w5.cell? ⟨w4.heap.size + 1, 0, none⟩ = some (.int .u64 0) := by rw [hc5 _ _ (by (try simp only [hd, World.size_alloc]); omega)]; simp [*, World.cell?_alloc_past, World.frozen?_alloc_past]); (try have n53 := World.block_lt_of_cell? w5 _ z530); (try have f530 : w5.frozen? ⟨w4.heap.size + 1, 0, none⟩ = false := by rw [hf5 _ _ (by (try simp only [hd, World.size_alloc]); omega)]; simp [*, World.cell?_alloc_past, World.frozen?_alloc_past]); (try have z531 : w5.cell? ⟨w4.heap.size + 1, 1, none⟩ = some (.slice none 0 0) := by rw [hc5 _ _ (by (try simp only [hd, World.size_alloc]); omega)]; simp [*, World.cell?_alloc_past, World.frozen?_alloc_past]); (try have f531 : w5.frozen? ⟨w4.heap.size + 1, 1, none⟩ = false := by rw [hf5 _ _ (by (try simp only [hd, World.size_alloc]); omega)]; simp [*, World.cell?_alloc_past, World.frozen?_alloc_past]); have s50 := (hT5.cell (p := ⟨w.heap.size, 0, none⟩) (by simp; omega)).trans y0; have s51 := (hT5.cell (p := ⟨w.heap.size, 1, none⟩) (by simp; omega)).trans y1; have s52 := (hT5.cell (p := ⟨w.heap.size + 1, 0, none⟩) (by simp; omega)).trans y2; have s53 := (hT5.cell (p := ⟨w.heap.size + 1, 1, none⟩) (by simp; omega)).trans y3)))
        all_goals
          go_wp2_with fail
          go_meet
          clear ne20 ne21 ne22 ne23 ne40 ne41 ne42 ne43 ne50 ne51 ne52 ne53
          refine TwoCut.mk' HOB1.out HOB2.out hbl1 hbl2 ?_ ?_ ?_ ?_ (HT.out.trans (Below.mono (B := w2.heap.size) ?_ (Nat.le_of_lt (Nat.lt_of_succ_lt HZ3.out)))) ?_ ?_ ?_ ?_
          · (repeat (first | with_reducible exact Far.refl _ _ _ | with_reducible refine Far.below ?_ hb5 | with_reducible refine Far.drew ?_ | with_reducible refine Far.alloc ?_ _ | with_reducible refine Far.setCell ?_ ?_ _ | exact .inl rfl | exact .inr rfl))
          · (repeat (first | with_reducible exact Far.refl _ _ _ | with_reducible refine Far.below ?_ hb5 | with_reducible refine Far.drew ?_ | with_reducible refine Far.alloc ?_ _ | with_reducible refine Far.setCell ?_ ?_ _ | exact .inl rfl | exact .inr rfl))
          · intro g h1 h2; (try simp only [hd, World.size_alloc] at h1 h2 ⊢); omega
          · intro g h1 h2; (try simp only [hd, World.size_alloc] at h1 h2 ⊢); omega
          · (repeat (first | with_reducible exact Below.refl _ _ | with_reducible exact hT5 | with_reducible exact hT4 | with_reducible refine Below.drew ?_ | with_reducible refine Below.alloc ?_ ?_ _ | with_reducible refine Below.setCell ?_ ?_ _ | (first | omega | (simp only [hd, World.size_alloc, World.size_setCell]; done) | (simp only [hd, World.size_alloc, World.size_setCell]; omega))))
          all_goals (repeat (first | with_reducible assumption | with_reducible refine st0 ?_ | with_reducible refine st1 ?_ | (apply Exists.intro; with_reducible assumption) | with_reducible refine ex_far ?_ ?_ | with_reducible refine Eq.trans (st_far ?_) ?_ | with_reducible refine al0 ?_ | with_reducible refine al1 ?_ | with_reducible refine Eq.trans (al_far ?_) ?_ | (first | omega | (simp only [hd, World.size_alloc, World.size_setCell]; done) | (simp only [hd, World.size_alloc, World.size_setCell]; omega))))
      case rest =>
        obtain ⟨A, D, xs, ys, q1, q2, l1, d1, l2, d2, rfl, rfl, hxl, hyl, ⟨ca0, ca1, cd0, cd1⟩, hix, hiy, hbw⟩ := hcut
        clear ne20 ne21 ne22 ne23 hd y0 y1 y2 y3 hz3 HV2 HU2 HT HZ3 HF HF2
        have HIX := Lib.hid hix
        have HIY := Lib.hid hiy
        have HBW := Lib.hid hbw
        clear hix hiy hbw
        have hza : A < wc.drew.heap.size := World.block_lt_of_cell? wc _ ca0
        have hzd : D < wc.drew.heap.size := World.block_lt_of_cell? wc _ cd0
        have c00 : wc.drew.cell? ⟨A, 0, none⟩ = some (.int .u64 (xs.length : Int)) := ca0
        have c01 : wc.drew.cell? ⟨A, 1, none⟩ = some (.slice q1 l1 d1) := ca1
        have c02 : wc.drew.cell? ⟨D, 0, none⟩ = some (.int .u64 (ys.length : Int)) := cd0
        have c03 : wc.drew.cell? ⟨D, 1, none⟩ = some (.slice q2 l2 d2) := cd1
        have HX0 := Lib.hid (HIX.out.below rfl (Below.refl _ _).drew)
        have HY0 := Lib.hid (HIY.out.below rfl (Below.refl _ _).drew)
        clear ca0 ca1 cd0 cd1 HIX HIY
        go_wp2_with fail
        go_region_held3 (fun w' => w'.cell? ⟨A, 0, none⟩ = some (.int .u64 (xs.length : Int)) ∧ w'.cell? ⟨A, 1, none⟩ = some (.slice q1 l1 d1) ∧ w'.cell? ⟨D, 0, none⟩ = some (.int .u64 (ys.length : Int)) ∧ w'.cell? ⟨D, 1, none⟩ = some (.slice q2 l2 d2))
          ((first | go_keep | exact ⟨by assumption, by assumption, by assumption, by assumption⟩ | assumption))
          ((first
            | (have tok := hb6; go_at_call 37; refine (two_any _ _ xs ys 3 _ (HSX.out.below rfl hb6) HSY.out (by omega) (by omega) (by omega)).mono ?_; rintro e w7 ⟨vt, rfl, hown7, hb7⟩; have hlt7 := hb7.size; have HST := Lib.hid (Sl.of_owns hown7); have c70 := (hb7.cell (p := ⟨A, 0, none⟩) (by simp only []; omega)).trans c60; have c71 := (hb7.cell (p := ⟨A, 1, none⟩) (by simp only []; omega)).trans c61; have c72 := (hb7.cell (p := ⟨D, 0, none⟩) (by simp only []; omega)).trans c62; have c73 := (hb7.cell (p := ⟨D, 1, none⟩) (by simp only []; omega)).trans c63)
            | (have tok := hb5; go_at_call 22; refine (bools_any _ ys _ (HY0.out.below rfl hb5) (by omega)).mono ?_; rintro e w6 ⟨vy, rfl, hown6, hb6⟩; have hlt6 := hb6.size; have HSY := Lib.hid (Sl.of_owns hown6); have c60 := (hb6.cell (p := ⟨A, 0, none⟩) (by simp only []; omega)).trans c50; have c61 := (hb6.cell (p := ⟨A, 1, none⟩) (by simp only []; omega)).trans c51; have c62 := (hb6.cell (p := ⟨D, 0, none⟩) (by simp only []; omega)).trans c52; have c63 := (hb6.cell (p := ⟨D, 1, none⟩) (by simp only []; omega)).trans c53)
            | ((fail_if_success (have tok := hb5)); go_at_call 22; refine (bools_any _ xs _ HX0.out (by omega)).mono ?_; rintro e w5 ⟨vx, rfl, hown5, hb5⟩; have hlt5 := hb5.size; have HSX := Lib.hid (Sl.of_owns hown5); have c50 := (hb5.cell (p := ⟨A, 0, none⟩) (by assumption)).trans c00; have c51 := (hb5.cell (p := ⟨A, 1, none⟩) (by assumption)).trans c01; have c52 := (hb5.cell (p := ⟨D, 0, none⟩) (by assumption)).trans c02; have c53 := (hb5.cell (p := ⟨D, 1, none⟩) (by assumption)).trans c03)))
        have HX7 := Lib.hid (((HX0.out.below rfl hb5).below rfl hb6).below rfl hb7)
        have HY7 := Lib.hid (((HY0.out.below rfl hb5).below rfl hb6).below rfl hb7)
        have hT7 : Below wc.heap.size wc w7 := ((Below.refl _ _).drew.trans (hb5.mono (Nat.le_refl _))).trans ((hb6.mono hlt5).trans (hb7.mono (Nat.le_trans hlt5 hlt6)))
        have HT7 := Lib.hid hT7
        have hA7 : A < w7.heap.size := by omega
        have hD7 : D < w7.heap.size := by omega
        have hW7 := hT7.size
        have hpl := Bsm.pos_len_le (twos 3 xs ys)
        rw [twos_len] at hpl
        have HST2 := HST.out
        obtain ⟨pt, nt, ct, rfl, hlt, _⟩ := HST2
        rw [u64s_len] at hlt
        have hnt : nt ≤ 400 := by omega
        have hconv : IntKind.u64.wrap (nt : Int) = (nt : Int) := by rw [IntKind.wrap_u64]; omega
        have HLT := Lib.hid hlt
        have HIN : Hid (∀ (k : Nat) (w' : World), Below w7.heap.size w7 w' → Sl w' (.slice pt nt ct) (u64s (Bsm.pos (twos 3 xs ys)))) := fun _ w' h => HST.out.below rfl h
        clear hlt hpl hT7 hown5 hown6 hown7 hb5 hb6 hb7 HSX HSY HST c50 c51 c52 c53 c60 c61 c62 c63 c00 c01 c02 c03 HX0 HY0 hlt5 hlt6 hlt7
        go_wp2_with fail
        refine (bssym_any _ _ xs ys _ HX7.out HY7.out (by omega) (by omega)).mono ?_
        rintro e w8 ⟨vi, cs, rfl, hob, hpos, hcl, hb8⟩
        have hz8 := hb8.size
        have HI8 := Lib.hid hob.is
        have HP8 := Lib.hid hpos
        have c80 := (hb8.cell (p := ⟨A, 0, none⟩) (by simp only []; omega)).trans c70
        have c81 := (hb8.cell (p := ⟨A, 1, none⟩) (by simp only []; omega)).trans c71
        have c82 := (hb8.cell (p := ⟨D, 0, none⟩) (by simp only []; omega)).trans c72
        have c83 := (hb8.cell (p := ⟨D, 1, none⟩) (by simp only []; omega)).trans c73
        have HB8 := Lib.hid hb8
        clear hob hpos hb8
        go_wp2_with fail
        refine (in_yes _ _ cs _ HI8.out (by rw [HP8.out]; exact HIN.out 0 _ HB8.out) (by omega)).mono ?_
        rintro e w9 ⟨rfl, hb9⟩
        have hz9 := hb9.size
        have c90 := (hb9.cell (p := ⟨A, 0, none⟩) (by simp only []; omega)).trans c80
        have c91 := (hb9.cell (p := ⟨A, 1, none⟩) (by simp only []; omega)).trans c81
        have c92 := (hb9.cell (p := ⟨D, 0, none⟩) (by simp only []; omega)).trans c82
        have c93 := (hb9.cell (p := ⟨D, 1, none⟩) (by simp only []; omega)).trans c83
        have hT9 : Below w7.heap.size w7 w9 := HB8.out.trans (hb9.mono hz8)
        have HT9 := Lib.hid hT9
        clear hb9 hT9
        go_wp2_with fail
        refine (bssymin_any _ _ xs ys _ (HX7.out.below rfl HT9.out) (HY7.out.below rfl HT9.out) (by omega) (by omega)).mono ?_
        rintro e w10 ⟨vj, cs2, rfl, hob, hpos, hcl2, hb10⟩
        have hz10 := hb10.size
        have HI10 := Lib.hid hob.is
        have HP10 := Lib.hid hpos
        have c100 := (hb10.cell (p := ⟨A, 0, none⟩) (by simp only []; omega)).trans c90
        have c101 := (hb10.cell (p := ⟨A, 1, none⟩) (by simp only []; omega)).trans c91
        have c102 := (hb10.cell (p := ⟨D, 0, none⟩) (by simp only []; omega)).trans c92
        have c103 := (hb10.cell (p := ⟨D, 1, none⟩) (by simp only []; omega)).trans c93
        have hT10 : Below w7.heap.size w7 w10 := HT9.out.trans (hb10.mono (by omega))
        have HT10 := Lib.hid hT10
        clear hob hpos hb10 hT10
        go_wp2_with fail
        refine (in_yes _ _ cs2 _ HI10.out (by rw [HP10.out]; exact HIN.out 0 _ HT10.out) (by omega)).mono ?_
        rintro e w11 ⟨rfl, hb11⟩
        have hz11 := hb11.size
        have c110 := (hb11.cell (p := ⟨A, 0, none⟩) (by simp only []; omega)).trans c100
        have c111 := (hb11.cell (p := ⟨A, 1, none⟩) (by simp only []; omega)).trans c101
        have c112 := (hb11.cell (p := ⟨D, 0, none⟩) (by simp only []; omega)).trans c102
        have c113 := (hb11.cell (p := ⟨D, 1, none⟩) (by simp only []; omega)).trans c103
        have hT11 : Below w7.heap.size w7 w11 := HT10.out.trans (hb11.mono (by omega))
        have HT11 := Lib.hid hT11
        clear hb11 hT11
        go_wp2_with fail
        refine (bssymcard_any _ _ xs ys _ (HX7.out.below rfl HT11.out) (HY7.out.below rfl HT11.out) (by omega) (by omega)).mono ?_
        rintro e w12 ⟨rfl, hb12⟩
        rw [HLT.out]
        go_wp2_with fail
        go_ret
        exact ⟨by simp, HBW.out.trans ((HT7.out.mono HBW.out.size).trans ((HT11.out.mono (Nat.le_trans HBW.out.size HT7.out.size)).trans (hb12.mono (Nat.le_trans (Nat.le_trans HBW.out.size HT7.out.size) HT11.out.size))))⟩
    · have HF := Lib.hid (show decide ((m : Int) ≤ 2147483647) = true by simpa using hf)
      have HF2 := Lib.hid (show decide ((m2 : Int) ≤ 2147483647) = false by simpa using hf2)
      clear hf hf2
      go_enter Try.func15, Try.ntmps15
      go_wp2_with fail
      refine (fits_any _ a m cap _ hmm).mono ?_
      rintro e w1 ⟨rfl, hb1⟩
      rw [HF.out]
      have hz1 := hb1.size
      simp only [World.size_alloc] at hz1
      have x2 : w1.cell? ⟨w.heap.size + 1, 0, none⟩ = some (.int .u64 (L2 : Int)) := (K1.out.below hb1 (by simp)).cell 0 rfl
      have x3 : w1.cell? ⟨w.heap.size + 1, 1, none⟩ = some (.slice a2 m2 cap2) := (K1.out.below hb1 (by simp)).cell 1 rfl
      go_wp2_with fail
      refine (fits_any _ a2 m2 cap2 _ hmm2).mono ?_
      rintro e w2 ⟨rfl, hb2⟩
      rw [HF2.out]
      go_wp2_with fail
      go_ret
      exact ⟨rfl, HB0.out.trans ((hb1.mono (by simp; omega)).trans (hb2.mono (by omega)))⟩
  · have HF := Lib.hid (show decide ((m : Int) ≤ 2147483647) = false by simpa using hf)
    clear hf
    go_enter Try.func15, Try.ntmps15
    go_wp2_with fail
    refine (fits_any _ a m cap _ hmm).mono ?_
    rintro e w1 ⟨rfl, hb1⟩
    rw [HF.out]
    go_wp2_with fail
    go_ret
    exact ⟨rfl, HB0.out.trans (hb1.mono (by simp; omega))⟩
end Go.Proofs.Ytbgmkojiklphmaa
