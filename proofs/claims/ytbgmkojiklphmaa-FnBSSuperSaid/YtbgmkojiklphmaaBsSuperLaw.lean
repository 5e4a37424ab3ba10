/- The walk of the law FnBSSuper: it returns true at every input. -/
import Derived.Test.YtbgmkojiklphmaaBsTwoHead
import Derived.Test.YtbgmkojiklphmaaBsSuperHead
import Derived.Test.YtbgmkojiklphmaaBsSuperImpl
import Derived.Deep.RegionHeld3
import Derived.Deep.DeepCutAuto
import Derived.Outline
namespace Go.Proofs.Ytbgmkojiklphmaa
set_option linter.unusedVariables false
open Go.RowKit

set_option maxRecDepth 100000 in
set_option maxHeartbeats 16000000 in
theorem law_bssuper (v u : Value) (how : Int) (w : World) (hv : AnyBits w v) (hu : AnyBits w u) (hh1 : 0 ≤ how) (hh2 : how ≤ 255) :
    Calls Try.prog 10 #[v, u, .int .u8 how] w fun e w' => e = .returned (.bool true) ∧ Below w.heap.size w w' := by
  have HV0 := hv
  have HU0 := hu
  obtain ⟨L, s, xs, rfl, hL, hs, hx⟩ := hv
  obtain ⟨a, m, cap, rfl, hl, hc, hm, hr⟩ := hs
  obtain ⟨L2, s2, ys, rfl, hL2, hs2, hx2⟩ := hu
  obtain ⟨a2, m2, cap2, rfl, hl2, hc2, hm2, hr2⟩ := hs2
  have hmm : m ≤ maxLen := by omega
  have hmm2 : m2 ≤ maxLen := by omega
  have hb0 : Below w.heap.size w ((w.alloc (.cells #[.int .u64 (L : Int), .slice a m cap] 25)).alloc (.cells #[.int .u64 (L2 : Int), .slice a2 m2 cap2] 25)) := ((Below.refl _ _).alloc (Nat.le_refl _) _).alloc (by simp) _
  have HV := Lib.hid (HV0.below rfl hb0)
  have HU := Lib.hid (HU0.below rfl hb0)
  have HB0 := Lib.hid hb0
  have k1 := Blk.new (w.alloc (.cells #[.int .u64 (L : Int), .slice a m cap] 25)) 25 #[.int .u64 (L2 : Int), .slice a2 m2 cap2]
  have k0 := (Blk.new w 25 #[.int .u64 (L : Int), .slice a m cap]).alloc (.cells #[.int .u64 (L2 : Int), .slice a2 m2 cap2] 25)
  rw [World.size_alloc] at k1
  have K0 := Lib.hid k0
  have K1 := Lib.hid k1
  clear HV0 HU0 hL hx hl hc hm hr hL2 hx2 hl2 hc2 hm2 hr2 hb0 k0 k1
  by_cases hf : (m : Int) ≤ 2147483647
  · by_cases hf2 : (m2 : Int) ≤ 2147483647
    · have HF := Lib.hid (show decide ((m : Int) ≤ 2147483647) = true by simpa using hf)
      have HF2 := Lib.hid (show decide ((m2 : Int) ≤ 2147483647) = true by simpa using hf2)
      clear hf hf2
      go_enter Try.func10, Try.ntmps10
      go_wp2_with fail
      refine (fits_any _ a m cap _ hmm).mono ?_
      rintro e w1 ⟨rfl, hb1⟩
      rw [HF.out]
      have hz1 := hb1.size
      simp only [World.size_alloc] at hz1
      have x0 : w1.cell? ⟨w.heap.size, 0, none⟩ = some (.int .u64 (L : Int)) := (K0.out.below hb1 (by simp; omega)).cell 0 rfl
      have x1 : w1.cell? ⟨w.heap.size, 1, none⟩ = some (.slice a m cap) := (K0.out.below hb1 (by simp; omega)).cell 1 rfl
      have x2 : w1.cell? ⟨w.heap.size + 1, 0, none⟩ = some (.int .u64 (L2 : Int)) := (K1.out.below hb1 (by simp)).cell 0 rfl
      have x3 : w1.cell? ⟨w.heap.size + 1, 1, none⟩ = some (.slice a2 m2 cap2) := (K1.out.below hb1 (by simp)).cell 1 rfl
      go_wp2_with fail
      refine (fits_any _ a2 m2 cap2 _ hmm2).mono ?_
      rintro e w2 ⟨rfl, hb2⟩
      rw [HF2.out]
      have hz2 := hb2.size
      have y0 := (hb2.cell (p := ⟨w.heap.size, 0, none⟩) (by simp; omega)).trans x0
      have y1 := (hb2.cell (p := ⟨w.heap.size, 1, none⟩) (by simp; omega)).trans x1
      have y2 := (hb2.cell (p := ⟨w.heap.size + 1, 0, none⟩) (by simp; omega)).trans x2
      have y3 := (hb2.cell (p := ⟨w.heap.size + 1, 1, none⟩) (by simp; omega)).trans x3
      have HV2 := Lib.hid ((HV.out.below rfl hb1).below rfl hb2)
      have HU2 := Lib.hid ((HU.out.below rfl hb1).below rfl hb2)
      have HT := Lib.hid (HB0.out.trans ((hb1.mono (by simp; omega)).trans (hb2.mono (by omega))))
      have hz3 : w.heap.size + 1 < w2.heap.size := by omega
      have HZ3 := Lib.hid hz3
      have ne20 : ¬ w2.heap.size = w.heap.size := (by omega)
      have ne21 : ¬ w2.heap.size = w.heap.size + 1 := (by omega)
      have ne22 : ¬ w2.heap.size + 1 = w.heap.size := (by omega)
      have ne23 : ¬ w2.heap.size + 1 = w.heap.size + 1 := (by omega)
      have hd : ∀ W : World, W.drew.heap.size = W.heap.size := fun _ => rfl
      clear x0 x1 x2 x3 hb1 hb2 hz1 hz2
      go_upto_region 3 with fail
      go_cut [7, 8] (fun s7 s8 wx => TwoCutF w s7 s8 wx)
      case first =>
        go_region_held3 (fun w' => w'.cell? ⟨w.heap.size, 0, none⟩ = some (.int .u64 (L : Int)) ∧ w'.cell? ⟨w.heap.size, 1, none⟩ = some (.slice a m cap) ∧ w'.cell? ⟨w.heap.size + 1, 0, none⟩ = some (.int .u64 (L2 : Int)) ∧ w'.cell? ⟨w.heap.size + 1, 1, none⟩ = some (.slice a2 m2 cap2))
          ((first | go_keep | exact ⟨by assumption, by assumption, by assumption, by assumption⟩ | assumption))
          ((first
            | ((fail_if_success (have tok := hb4)); go_at_call 17; refine Calls.mono (bits_any _ _ ?_) ?_; exact HV2.out.below rfl (by (repeat (first | with_reducible exact Below.refl _ _ | with_reducible exact hT5 | with_reducible exact hT4 | with_reducible refine Below.drew ?_ | with_reducible refine Below.alloc ?_ ?_ _ | with_reducible refine Below.setCell ?_ ?_ _ | (first | omega | (simp only [hd, World.size_alloc, World.size_setCell]; done) | (simp only [hd, World.size_alloc, World.size_setCell]; omega))))); rintro e w4 ⟨va, bs1, rfl, hbl1, hob1, hb4⟩; have hT4 : Below w2.heap.size w2 w4 := Below.trans (by (repeat (first | with_reducible exact Below.refl _ _ | with_reducible exact hT5 | with_reducible exact hT4 | with_reducible refine Below.drew ?_ | with_reducible refine Below.alloc ?_ ?_ _ | with_reducible refine Below.setCell ?_ ?_ _ | (first | omega | (simp only [hd, World.size_alloc, World.size_setCell]; done) | (simp only [hd, World.size_alloc, World.size_setCell]; omega))))) (hb4.mono (by (try simp only [hd, World.size_alloc]); omega)); have hz4 := hT4.size; have ne40 : ¬ w4.heap.size = w.heap.size := (by omega); have ne41 : ¬ w4.heap.size = w.heap.size + 1 := (by omega); have ne42 : ¬ w4.heap.size + 1 = w.heap.size := (by omega); have ne43 : ¬ w4.heap.size + 1 = w.heap.size + 1 := (by omega); have HOB1 := Lib.hid hob1; obtain ⟨q1, l1, d1, rfl, _⟩ := hob1; obtain ⟨hc4, hf4⟩ := bcell hb4; (try have z400 : w4.cell? ⟨w2.heap.size, 0, none⟩ = some (.int .u64 0) := by rw [hc4 _ _ (by (try simp only [hd, World.size_alloc]); omega)]; simp [*, World.cell?_alloc_past, World.frozen?_alloc_past]); (try have n40 := World.block_lt_of_cell? w4 _ z400); (try have f400 : w4.frozen? ⟨w2.heap.size, 0, none⟩ = false := by rw [hf4 _ _ (by (try simp only [hd, World.size_alloc]); omega)]; simp [*, World.cell?_alloc_past, World.frozen?_alloc_past]); (try have z401 : w4.cell? ⟨w2.heap.size, 1, none⟩ = some (.slice none 0 0) := by rw [hc4 _ _ (by (try simp only [hd, World.size_alloc]); omega)]; simp [*, World.cell?_alloc_past, World.frozen?_alloc_past]); (try have f401 : w4.frozen? ⟨w2.heap.size, 1, none⟩ = false := by rw [hf4 _ _ (by (try simp only [hd, World.size_alloc]); omega)]; simp [*, World.cell?_alloc_past, World.frozen?_alloc_past]); (try have z410 : w4.cell? ⟨w2.heap.size + 1, 0, none⟩ = some (.int .u64 0) := by rw [hc4 _ _ (by (try simp only [hd, World.size_alloc]); omega)]; simp [*, World.cell?_alloc_past, World.frozen?_alloc_past]); (try have n41 := World.block_lt_of_cell? w4 _ z410); (try have f410 : w4.frozen? ⟨w2.heap.size + 1, 0, none⟩ = false := by rw [hf4 _ _ (by (try simp only [hd, World.size_alloc]); omega)]; simp [*, World.cell?_alloc_past, World.frozen?_alloc_past]); (try have z411 : w4.cell? ⟨w2.heap.size + 1, 1, none⟩ = some (.slice none 0 0) := by rw [hc4 _ _ (by (try simp only [hd, World.size_alloc]); omega)]; simp [*, World.cell?_alloc_past, World.frozen?_alloc_past]); (try have f411 : w4.frozen? ⟨w2.heap.size + 1, 1, none⟩ = false := by rw [hf4 _ _ (by (try simp only [hd, World.size_alloc]); omega)]; simp [*, World.cell?_alloc_past, World.frozen?_alloc_past]); have s40 := (hT4.cell (p := ⟨w.heap.size, 0, none⟩) (by simp; omega)).trans y0; have s41 := (hT4.cell (p := ⟨w.heap.size, 1, none⟩) (by simp; omega)).trans y1; have s42 := (hT4.cell (p := ⟨w.heap.size + 1, 0, none⟩) (by simp; omega)).trans y2; have s43 := (hT4.cell (p := ⟨w.heap.size + 1, 1, none⟩) (by simp; omega)).trans y3)
            | (go_at_call 17; refine Calls.mono (bits_any _ _ ?_) ?_; exact HU2.out.below rfl (by (repeat (first | with_reducible exact Below.refl _ _ | with_reducible exact hT5 | with_reducible exact hT4 | with_reducible refine Below.drew ?_ | with_reducible refine Below.alloc ?_ ?_ _ | with_reducible refine Below.setCell ?_ ?_ _ | (first | omega | (simp only [hd, World.size_alloc, World.size_setCell]; done) | (simp only [hd, World.size_alloc, World.size_setCell]; omega))))); rintro e w5 ⟨vb, bs2, rfl, hbl2, hob2, hb5⟩; have hT5 : Below w2.heap.size w2 w5 := Below.trans (by (repeat (first | with_reducible exact Below.refl _ _ | with_reducible exact hT5 | with_reducible exact hT4 | with_reducible refine Below.drew ?_ | with_reducible refine Below.alloc ?_ ?_ _ | with_reducible refine Below.setCell ?_ ?_ _ | (first | omega | (simp only [hd, World.size_alloc, World.size_setCell]; done) | (simp only [hd, World.size_alloc, World.size_setCell]; omega))))) (hb5.mono (by (try simp only [hd, World.size_alloc]); omega)); have hz5 : w4.heap.size ≤ w5.heap.size := (by have := hb5.size; (try simp only [hd, World.size_alloc] at this); omega); have HOB2 := Lib.hid hob2; obtain ⟨q2, l2, d2, rfl, _⟩ := hob2; have ne50 : ¬ w5.heap.size = w.heap.size := (by omega); have ne51 : ¬ w5.heap.size = w.heap.size + 1 := (by omega); have ne52 : ¬ w5.heap.size + 1 = w.heap.size := (by omega); have ne53 : ¬ w5.heap.size + 1 = w.heap.size + 1 := (by omega); obtain ⟨hc5, hf5⟩ := bcell hb5; (try have z500 : w5.cell? ⟨w2.heap.size, 0, none⟩ = some (.int .u64 0) := by rw [hc5 _ _ (by (try simp only [hd, World.size_alloc]); omega)]; simp [*, World.cell?_alloc_past, World.frozen?_alloc_past]); (try have n50 := World.block_lt_of_cell? w5 _ z500); (try have f500 : w5.frozen? ⟨w2.heap.size, 0, none⟩ = false := by rw [hf5 _ _ (by (try simp only [hd, World.size_alloc]); omega)]; simp [*, World.cell?_alloc_past, World.frozen?_alloc_past]); (try have z501 : w5.cell? ⟨w2.heap.size, 1, none⟩ = some (.slice none 0 0) := by rw [hc5 _ _ (by (try simp only [hd, World.size_alloc]); omega)]; simp [*, World.cell?_alloc_past, World.frozen?_alloc_past]); (try have f501 : w5.frozen? ⟨w2.heap.size, 1, none⟩ = false := by rw [hf5 _ _ (by (try simp only [hd, World.size_alloc]); omega)]; simp [*, World.cell?_alloc_past, World.frozen?_alloc_past]); (try have z510 : w5.cell? ⟨w2.heap.size + 1, 0, none⟩ = some (.int .u64 0) := by rw [hc5 _ _ (by (try simp only [hd, World.size_alloc]); omega)]; simp [*, World.cell?_alloc_past, World.frozen?_alloc_past]); (try have n51 := World.block_lt_of_cell? w5 _ z510); (try have f510 : w5.frozen? ⟨w2.heap.size + 1, 0, none⟩ = false := by rw [hf5 _ _ (by (try simp only [hd, World.size_alloc]); omega)]; simp [*, World.cell?_alloc_past, World.frozen?_alloc_past]); (try have z511 : w5.cell? ⟨w2.heap.size + 1, 1, none⟩ = some (.slice none 0 0) := by rw [hc5 _ _ (by (try simp only [hd, World.size_alloc]); omega)]; simp [*, World.cell?_alloc_past, World.frozen?_alloc_past]); (try have f511 : w5.frozen? ⟨w2.heap.size + 1, 1, none⟩ = false := by rw [hf5 _ _ (by (try simp only [hd, World.size_alloc]); omega)]; simp [*, World.cell?_alloc_past, World.frozen?_alloc_past]); (try have z520 : w5.cell? ⟨w4.heap.size, 0, none⟩ = some (.int .u64 0) := by rw [hc5 _ _ (by (try simp only [hd, World.size_alloc]); omega)]; simp [*, World.cell?_alloc_past, World.frozen?_alloc_past]); (try have n52 := World.block_lt_of_cell? w5 _ z520); (try have f520 : w5.frozen? ⟨w4.heap.size, 0, none⟩ = false := by rw [hf5 _ _ (by (try simp only [hd, World.size_alloc]); omega)]; simp [*, World.cell?_alloc_past, World.frozen?_alloc_past]); (try have z521 : w5.cell? ⟨w4.heap.size, 1, none⟩ = some (.slice none 0 0) := by rw [hc5 _ _ (by (try simp only [hd, World.size_alloc]); omega)]; simp [*, World.cell?_alloc_past, World.frozen?_alloc_past]); (try have f521 : w5.frozen? ⟨w4.heap.size, 1, none⟩ = false := by rw [hf5 _ _ (by (try simp only [hd, World.size_alloc]); omega)]; simp [*, World.cell?_alloc_past, World.frozen?_alloc_past]); (try have z530 : w5.cell? ⟨w4.heap.size + 1, 0, none⟩ = some (.int .u64 0) := by rw [hc5 _ _ (by (try simp only [hd, World.size_alloc]); omega)]; simp [*, World.cell?_alloc_past, World.frozen?_alloc_past]); (try have n53 := World.block_lt_of_cell? w5 _ z530); (try have f530 : w5.frozen? ⟨w4.heap.size + 1, 0, none⟩ = false := by rw [hf5 _ _ (by (try simp only [hd, World.size_alloc]); omega)]; simp [*, World.cell?_alloc_past, World.frozen?_alloc_past]); (try have z531 : w5.cell? ⟨w4.heap.size + 1, 1, none⟩ = some (.slice none 0 0) := by rw [hc5 _ _ (by (try simp only [hd, World.size_alloc]); omega)]; simp [*, World.cell?_alloc_past, World.frozen?_alloc_past]); (try have f531 : w5.frozen? ⟨w4.heap.size + 1, 1, none⟩ = false := by rw [hf5 _ _ (by (try simp only [hd, World.size_alloc]); omega)]; simp [*, World.cell?_alloc_past, World.frozen?_alloc_past]); have s50 := (hT5.cell (p := ⟨w.heap.size, 0, none⟩) (by simp; omega)).trans y0; have s51 := (hT5.cell (p := ⟨w.heap.size, 1, none⟩) (by simp; omega)).trans y1; have s52 := (hT5.cell (p := ⟨w.heap.size + 1, 0, none⟩) (by simp; omega)).trans y2; have s53 := (hT5.cell (p := ⟨w.heap.size + 1, 1, none⟩) (by simp; omega)).trans y3)))
        all_goals
          go_wp2_with fail
          go_meet
          clear ne20 ne21 ne22 ne23 ne40 ne41 ne42 ne43 ne50 ne51 ne52 ne53
          refine TwoCutF.mk' ?_ ?_ ?_ ?_
          rotate_left 1
          · first | (simp [*, World.frozen?_alloc_past]; done) | exact World.frozen?_alloc_at _ _ _ _ (by simp) | (rw [World.frozen?_alloc_past _ _ _ (by simp)]; exact World.frozen?_alloc_at _ _ _ _ rfl) | go_simp
          · omega
          · (try simp only [hd, World.size_alloc]); omega
          refine TwoCut.mk' HOB1.out HOB2.out hbl1 hbl2 ?_ ?_ ?_ ?_ (HT.out.trans (Below.mono (B := w2.heap.size) ?_ (Nat.le_of_lt (Nat.lt_of_succ_lt HZ3.out)))) ?_ ?_ ?_ ?_
          · (repeat (first | with_reducible exact Far.refl _ _ _ | with_reducible refine Far.below ?_ hb5 | with_reducible refine Far.drew ?_ | with_reducible refine Far.alloc ?_ _ | with_reducible refine Far.setCell ?_ ?_ _ | exact .inl rfl | exact .inr rfl))
          · (repeat (first | with_reducible exact Far.refl _ _ _ | with_reducible refine Far.below ?_ hb5 | with_reducible refine Far.drew ?_ | with_reducible refine Far.alloc ?_ _ | with_reducible refine Far.setCell ?_ ?_ _ | exact .inl rfl | exact .inr rfl))
          · intro g h1 h2; (try simp only [hd, World.size_alloc] at h1 h2 ⊢); omega
          · intro g h1 h2; (try simp only [hd, World.size_alloc] at h1 h2 ⊢); omega
          · (repeat (first | with_reducible exact Below.refl _ _ | with_reducible exact hT5 | with_reducible exact hT4 | with_reducible refine Below.drew ?_ | with_reducible refine Below.alloc ?_ ?_ _ | with_reducible refine Below.setCell ?_ ?_ _ | (first | omega | (simp only [hd, World.size_alloc, World.size_setCell]; done) | (simp only [hd, World.size_alloc, World.size_setCell]; omega))))
          all_goals (repeat (first | with_reducible assumption | with_reducible refine st0 ?_ | with_reducible refine st1 ?_ | (apply Exists.intro; with_reducible assumption) | with_reducible refine ex_far ?_ ?_ | with_reducible refine Eq.trans (st_far ?_) ?_ | with_reducible refine al0 ?_ | with_reducible refine al1 ?_ | with_reducible refine Eq.trans (al_far ?_) ?_ | (first | omega | (simp only [hd, World.size_alloc, World.size_setCell]; done) | (simp only [hd, World.size_alloc, World.size_setCell]; omega))))
      case rest =>
        obtain ⟨hcut, hfrz, hneq⟩ := hcut
        obtain ⟨A, D, xs, ys, q1, q2, l1, d1, l2, d2, rfl, rfl, hxl, hyl, ⟨ca0, ca1, cd0, cd1⟩, hix, hiy, hbw⟩ := hcut
        clear ne20 ne21 ne22 ne23 hd y0 y1 y2 y3 hz3 HV2 HU2 HT HZ3 HF HF2
        have HIX := Lib.hid hix
        have HIY := Lib.hid hiy
        have HBW := Lib.hid hbw
        clear hix hiy hbw
        have fD := hfrz D rfl
        obtain ⟨hDA, hDge⟩ := hneq A D rfl rfl
        clear hfrz hneq
        go_upto_if 24 with fail
        go_cut [24] (fun s24 wx => SupCut w A D xs wx)
        case first =>
          by_cases hr : how % 3 = 1
          · have hrb : (how % 3 == 1) = true := by simpa using hr
            have HR := Lib.hid hr
            clear hr
            have hza : A < wc.drew.heap.size := World.block_lt_of_cell? wc _ ca0
            have hzd : D < wc.drew.heap.size := World.block_lt_of_cell? wc _ cd0
            have c00 : wc.drew.cell? ⟨A, 0, none⟩ = some (.int .u64 (xs.length : Int)) := ca0
            have c01 : wc.drew.cell? ⟨A, 1, none⟩ = some (.slice q1 l1 d1) := ca1
            have c02 : wc.drew.cell? ⟨D, 0, none⟩ = some (.int .u64 (ys.length : Int)) := cd0
            have c03 : wc.drew.cell? ⟨D, 1, none⟩ = some (.slice q2 l2 d2) := cd1
            have HX0 := Lib.hid (HIX.out.below rfl (Below.refl _ _).drew)
            have HY0 := Lib.hid (HIY.out.below rfl (Below.refl _ _).drew)
            go_wp2_with fail
            go_region_with
              ((first
                | (have tok := hb6; go_at_call 37; refine (two_any _ _ xs ys 1 _ (HSX.out.below rfl hb6) HSY.out (by omega) (by omega) (by omega)).mono ?_; rintro e w7 ⟨vt, rfl, hown7, hb7⟩; have hlt7 := hb7.size; have HOW := Lib.hid hown7; obtain ⟨pt, nt, ct, rfl, hlt, _⟩ := Sl.of_owns hown7; have c70 := (hb7.cell (p := ⟨A, 0, none⟩) (by simp only []; omega)).trans c60; have c71 := (hb7.cell (p := ⟨A, 1, none⟩) (by simp only []; omega)).trans c61; have c72 := (hb7.cell (p := ⟨D, 0, none⟩) (by simp only []; omega)).trans c62; have c73 := (hb7.cell (p := ⟨D, 1, none⟩) (by simp only []; omega)).trans c63; have f7 : w7.frozen? ⟨D, 1, none⟩ = false := (((hb7.frozen (p := ⟨D, 1, none⟩) (by simp only []; omega)).trans (hb6.frozen (p := ⟨D, 1, none⟩) (by simp only []; omega))).trans (hb5.frozen (p := ⟨D, 1, none⟩) (by assumption))).trans fD)
                | (have tok := hb5; go_at_call 22; refine (bools_any _ ys _ (HY0.out.below rfl hb5) (by omega)).mono ?_; rintro e w6 ⟨vy, rfl, hown6, hb6⟩; have hlt6 := hb6.size; have HSY := Lib.hid (Sl.of_owns hown6); have c60 := (hb6.cell (p := ⟨A, 0, none⟩) (by simp only []; omega)).trans c50; have c61 := (hb6.cell (p := ⟨A, 1, none⟩) (by simp only []; omega)).trans c51; have c62 := (hb6.cell (p := ⟨D, 0, none⟩) (by simp only []; omega)).trans c52; have c63 := (hb6.cell (p := ⟨D, 1, none⟩) (by simp only []; omega)).trans c53)
                | ((fail_if_success (have tok := hb5)); go_at_call 22; refine (bools_any _ xs _ HX0.out (by omega)).mono ?_; rintro e w5 ⟨vx, rfl, hown5, hb5⟩; have hlt5 := hb5.size; have HSX := Lib.hid (Sl.of_owns hown5); have c50 := (hb5.cell (p := ⟨A, 0, none⟩) (by assumption)).trans c00; have c51 := (hb5.cell (p := ⟨A, 1, none⟩) (by assumption)).trans c01; have c52 := (hb5.cell (p := ⟨D, 0, none⟩) (by assumption)).trans c02; have c53 := (hb5.cell (p := ⟨D, 1, none⟩) (by assumption)).trans c03)))
            all_goals
              go_wp2_with fail
              go_meet
              have hT7 : Below wc.heap.size wc w7 := ((Below.refl _ _).drew.trans (hb5.mono (Nat.le_refl _))).trans ((hb6.mono hlt5).trans (hb7.mono (Nat.le_trans hlt5 hlt6)))
              have hnt : (u64s (Bsm.pos (twos 1 xs ys))).length = nt := by simpa [u64s_len] using hlt
              refine ⟨andl xs ys, q1, pt, l1, d1, nt, ct, by rw [andl_len]; omega, ⟨?_, ?_, ?_, ?_⟩, ?_, ?_, ?_⟩
              · rw [World.cell?_setCell_far _ _ _ _ (by simpa using hDA)]; exact c70
              · rw [World.cell?_setCell_far _ _ _ _ (by simpa using hDA)]; exact c71
              · rw [World.cell?_setCell_other _ _ _ _ (by simp), andl_len]; exact c72
              · exact World.cell?_setCell_same _ _ _ c73
              · exact ((((HX0.out.below rfl hb5).below rfl hb6).below rfl hb7)).setWord c73 _
              · refine ⟨_, by rw [andl_len], ?_⟩
                rw [andl_pos]
                exact (Sl.of_owns HOW.out).setWord c73 _
              · exact (HBW.out.trans (hT7.mono HBW.out.size)).setCell (by simpa using hDge) _
          · have hrb : (how % 3 == 1) = false := by simpa using hr
            have HR := Lib.hid hr
            clear hr
            go_wp2_with fail
            go_meet
            exact ⟨ys, q1, q2, l1, d1, l2, d2, hyl, ⟨ca0, ca1, cd0, cd1⟩, HIX.out, HIY.out, HBW.out⟩
        case rest =>
          clear HIX HIY HBW ca0 ca1 cd0 cd1 fD
          obtain ⟨zs, q1, q2, l1, d1, l2, d2, hzl, ⟨ca0, ca1, cd0, cd1⟩, hix, hiz, hbw⟩ := hcut
          have HIX := Lib.hid hix
          have HIY := Lib.hid hiz
          have HBW := Lib.hid hbw
          clear hix hiz hbw
          have hza : A < wc.drew.heap.size := World.block_lt_of_cell? wc _ ca0
          have hzd : D < wc.drew.heap.size := World.block_lt_of_cell? wc _ cd0
          have c00 : wc.drew.cell? ⟨A, 0, none⟩ = some (.int .u64 (xs.length : Int)) := ca0
          have c01 : wc.drew.cell? ⟨A, 1, none⟩ = some (.slice q1 l1 d1) := ca1
          have c02 : wc.drew.cell? ⟨D, 0, none⟩ = some (.int .u64 (zs.length : Int)) := cd0
          have c03 : wc.drew.cell? ⟨D, 1, none⟩ = some (.slice q2 l2 d2) := cd1
          have HX0 := Lib.hid (HIX.out.below rfl (Below.refl _ _).drew)
          have HY0 := Lib.hid (HIY.out.below rfl (Below.refl _ _).drew)
          clear ca0 ca1 cd0 cd1 HIX HIY
          go_wp2_with fail
          go_region_held3 (fun w' => w'.cell? ⟨A, 0, none⟩ = some (.int .u64 (xs.length : Int)) ∧ w'.cell? ⟨A, 1, none⟩ = some (.slice q1 l1 d1) ∧ w'.cell? ⟨D, 0, none⟩ = some (.int .u64 (zs.length : Int)) ∧ w'.cell? ⟨D, 1, none⟩ = some (.slice q2 l2 d2))
            ((first | go_keep | exact ⟨by assumption, by assumption, by assumption, by assumption⟩ | assumption))
            ((first
              | (have tok := hb6; go_at_call 37; refine (two_any _ _ zs xs 2 _ (HSY.out.below rfl hb6) HSX.out (by omega) (by omega) (by omega)).mono ?_; rintro e w7 ⟨vt, rfl, hown7, hb7⟩; have hlt7 := hb7.size; have HST := Lib.hid (Sl.of_owns hown7); obtain ⟨pt, nt, ct, rfl, hlt, _⟩ := Sl.of_owns hown7; have c70 := (hb7.cell (p := ⟨A, 0, none⟩) (by simp only []; omega)).trans c60; have c71 := (hb7.cell (p := ⟨A, 1, none⟩) (by simp only []; omega)).trans c61; have c72 := (hb7.cell (p := ⟨D, 0, none⟩) (by simp only []; omega)).trans c62; have c73 := (hb7.cell (p := ⟨D, 1, none⟩) (by simp only []; omega)).trans c63)
              | (have tok := hb5; go_at_call 22; refine (bools_any _ xs _ (HX0.out.below rfl hb5) (by omega)).mono ?_; rintro e w6 ⟨vx, rfl, hown6, hb6⟩; have hlt6 := hb6.size; have HSX := Lib.hid (Sl.of_owns hown6); have c60 := (hb6.cell (p := ⟨A, 0, none⟩) (by simp only []; omega)).trans c50; have c61 := (hb6.cell (p := ⟨A, 1, none⟩) (by simp only []; omega)).trans c51; have c62 := (hb6.cell (p := ⟨D, 0, none⟩) (by simp only []; omega)).trans c52; have c63 := (hb6.cell (p := ⟨D, 1, none⟩) (by simp only []; omega)).trans c53)
              | ((fail_if_success (have tok := hb5)); go_at_call 22; refine (bools_any _ zs _ HY0.out (by omega)).mono ?_; rintro e w5 ⟨vy, rfl, hown5, hb5⟩; have hlt5 := hb5.size; have HSY := Lib.hid (Sl.of_owns hown5); have c50 := (hb5.cell (p := ⟨A, 0, none⟩) (by assumption)).trans c00; have c51 := (hb5.cell (p := ⟨A, 1, none⟩) (by assumption)).trans c01; have c52 := (hb5.cell (p := ⟨D, 0, none⟩) (by assumption)).trans c02; have c53 := (hb5.cell (p := ⟨D, 1, none⟩) (by assumption)).trans c03)))
          have HX7 := Lib.hid (((HX0.out.below rfl hb5).below rfl hb6).below rfl hb7)
          have HY7 := Lib.hid (((HY0.out.below rfl hb5).below rfl hb6).below rfl hb7)
          have hT7 : Below wc.heap.size wc w7 := ((Below.refl _ _).drew.trans (hb5.mono (Nat.le_refl _))).trans ((hb6.mono hlt5).trans (hb7.mono (Nat.le_trans hlt5 hlt6)))
          have HT7 := Lib.hid hT7
          have hA7 : A < w7.heap.size := by omega
          have hD7 : D < w7.heap.size := by omega
          rw [u64s_len] at hlt
          have hl1 : (Bsm.pos xs).length = l1 := by obtain ⟨s, e, hs⟩ := HX7.out; simp at e; rw [← e] at hs; have := hs.length; rwa [u64s_len] at this
          have hl2 : (Bsm.pos zs).length = l2 := by obtain ⟨s, e, hs⟩ := HY7.out; simp at e; rw [← e] at hs; have := hs.length; rwa [u64s_len] at this
          obtain ⟨bb, hbb⟩ : ∃ bb, ((nt : Int) == 0) = bb := ⟨_, rfl⟩
          have hsub : bb = true ↔ ∀ j, zs.getD j false = true → xs.getD j false = true := by
            rw [← hbb, ← hlt]
            have h0 : (((Bsm.pos (twos 2 zs xs)).length : Int) == 0) = true ↔ Bsm.pos (twos 2 zs xs) = [] := by simp
            rw [h0]
            constructor
            · intro h j hj
              cases hx : xs.getD j false with
              | true => rfl
              | false =>
                have : j ∈ Bsm.pos (twos 2 zs xs) := (Bsm.mem_pos _ _).2 (by rw [twos_get _ _ _ (by omega), hj, hx]; rfl)
                rw [h] at this; cases this
            · intro h
              apply List.eq_nil_iff_forall_not_mem.2
              intro j hj
              have := (Bsm.mem_pos _ _).1 hj
              rw [twos_get _ _ _ (by omega)] at this
              cases hz : zs.getD j false with
              | false => rw [hz] at this; simp [two] at this
              | true => rw [hz, h j hz] at this; simp [two] at this
          have HSUB := Lib.hid hsub
          have HPX := Lib.hid hl1
          have HPZ := Lib.hid hl2
          clear hsub hl1 hl2 hlt hT7 hown5 hown6 hown7 hb5 hb6 hb7 HSX HSY HST c50 c51 c52 c53 c60 c61 c62 c63 c00 c01 c02 c03 HX0 HY0 hlt5 hlt6 hlt7
          go_wp2_with fail
          refine (bssuper_any _ _ xs zs bb HSUB.out _ HX7.out HY7.out (by omega) (by omega)).mono ?_
          rintro e w8 ⟨rfl, hb8⟩
          have hz8 := hb8.size
          have c80 := (hb8.cell (p := ⟨A, 0, none⟩) (by simp only []; omega)).trans c70
          have c81 := (hb8.cell (p := ⟨A, 1, none⟩) (by simp only []; omega)).trans c71
          have c82 := (hb8.cell (p := ⟨D, 0, none⟩) (by simp only []; omega)).trans c72
          have c83 := (hb8.cell (p := ⟨D, 1, none⟩) (by simp only []; omega)).trans c73
          have HB8 := Lib.hid hb8
          clear hb8
          have hbq : (bb == bb) = true := by simp
          go_wp2_with fail
          refine (bsstrict_any _ _ xs zs bb HSUB.out _ (HX7.out.below rfl HB8.out) (HY7.out.below rfl HB8.out) (by omega) (by omega)).mono ?_
          rintro e w9 ⟨rfl, hb9⟩
          rw [HPX.out, HPZ.out]
          have hz9 := hb9.size
          have c90 := (hb9.cell (p := ⟨A, 0, none⟩) (by simp only []; omega)).trans c80
          have c91 := (hb9.cell (p := ⟨A, 1, none⟩) (by simp only []; omega)).trans c81
          have c92 := (hb9.cell (p := ⟨D, 0, none⟩) (by simp only []; omega)).trans c82
          have c93 := (hb9.cell (p := ⟨D, 1, none⟩) (by simp only []; omega)).trans c83
          have HB9 := Lib.hid hb9
          clear hb9 hbb
          cases bb
          all_goals
            go_wp2_with fail
            go_ret
            exact ⟨ret_bool (by simp), HBW.out.trans ((HT7.out.mono HBW.out.size).trans ((HB8.out.mono (Nat.le_trans HBW.out.size HT7.out.size)).trans (HB9.out.mono (Nat.le_trans (Nat.le_trans HBW.out.size HT7.out.size) HB8.out.size))))⟩
    · have HF := Lib.hid (show decide ((m : Int) ≤ 2147483647) = true by simpa using hf)
      have HF2 := Lib.hid (show decide ((m2 : Int) ≤ 2147483647) = false by simpa using hf2)
      clear hf hf2
      go_enter Try.func10, Try.ntmps10
      go_wp2_with fail
      refine (fits_any _ a m cap _ hmm).mono ?_
      rintro e w1 ⟨rfl, hb1⟩
      rw [HF.out]
      have hz1 := hb1.size
      simp only [World.size_alloc] at hz1
      have x2 : w1.cell? ⟨w.heap.size + 1, 0, none⟩ = some (.int .u64 (L2 : Int)) := (K1.out.below hb1 (by simp)).cell 0 rfl
      have x3 : w1.cell? ⟨w.heap.size + 1, 1, none⟩ = some (.slice a2 m2 cap2) := (K1.out.below hb1 (by simp)).cell 1 rfl
      go_wp2_with fail
      refine (fits_any _ a2 m2 cap2 _ hmm2).mono ?_
      rintro e w2 ⟨rfl, hb2⟩
      rw [HF2.out]
      go_wp2_with fail
      go_ret
      exact ⟨rfl, HB0.out.trans ((hb1.mono (by simp; omega)).trans (hb2.mono (by omega)))⟩
  · have HF := Lib.hid (show decide ((m : Int) ≤ 2147483647) = false by simpa using hf)
    clear hf
    go_enter Try.func10, Try.ntmps10
    go_wp2_with fail
    refine (fits_any _ a m cap _ hmm).mono ?_
    rintro e w1 ⟨rfl, hb1⟩
    rw [HF.out]
    go_wp2_with fail
    go_ret
    exact ⟨rfl, HB0.out.trans (hb1.mono (by simp; omega))⟩
end Go.Proofs.Ytbgmkojiklphmaa
