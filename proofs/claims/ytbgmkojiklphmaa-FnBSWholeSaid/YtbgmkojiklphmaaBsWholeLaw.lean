/- The walk of the law FnBSWhole: it returns true at every input. -/
import Derived.Test.YtbgmkojiklphmaaBsAll
import Derived.Deep.RegionHeld3
namespace Go.Proofs.Ytbgmkojiklphmaa
set_option linter.unusedVariables false
open Go.RowKit

set_option maxRecDepth 100000 in
set_option maxHeartbeats 2000000 in
theorem law_bswhole (v : Value)  (w : World) (hv : AnyBits w v)  :
    Calls Try.prog 11 #[v] w fun e w' => e = .returned (.bool true) ∧ Below w.heap.size w w' := by
  have HV0 := hv
  obtain ⟨L, s, xs, rfl, hL, hs, hx⟩ := hv
  obtain ⟨a, m, cap, rfl, hl, hc, hm, hr⟩ := hs
  have hmm : m ≤ maxLen := by omega
  have HV := Lib.hid HV0
  clear HV0 hL hx hl hc hm hr
  have hb0 : Below w.heap.size w (w.alloc (.cells #[.int .u64 (L : Int), .slice a m cap] 25)) := (Below.refl _ _).alloc (Nat.le_refl _) _
  have HB0 := Lib.hid hb0
  clear hb0
  
  by_cases hf : (m : Int) ≤ 2147483647
  · have HF := Lib.hid (show decide ((m : Int) ≤ 2147483647) = true by simpa using hf)
    clear hf
    go_enter Try.func11, Try.ntmps11
    go_wp2_with fail
    refine (fits_any _ a m cap _ hmm).mono ?_
    rintro e w1 ⟨rfl, hb1⟩
    rw [HF.out]
    have hz1 := hb1.size
    rw [World.size_alloc] at hz1
    have bk1 := (Blk.new w 25 #[.int .u64 (L : Int), .slice a m cap]).below hb1 (by simp)
    have c0 : w1.cell? ⟨w.heap.size, 0, none⟩ = some (.int .u64 (L : Int)) := bk1.cell 0 rfl
    have c1 : w1.cell? ⟨w.heap.size, 1, none⟩ = some (.slice a m cap) := bk1.cell 1 rfl
    clear bk1
    go_wp2_with fail
    refine (bits_any _ _ ?hb).mono ?_
    case hb => exact (HV.out.below rfl HB0.out).below rfl (hb1.trans (by repeat (first | exact Below.refl _ _ | refine Below.alloc ?_ (by simp; omega) _)))
    rintro e w2 ⟨va, bs, rfl, hbl, hob, hb2⟩
    have HOB := Lib.hid hob
    obtain ⟨p1, m1, k1, rfl, _⟩ := hob
    have hz2 := hb2.size
    have HT : Hid (Below w.heap.size w w2 ∧ w.heap.size ≤ w2.heap.size) := ⟨(HB0.out.trans (hb1.mono (by simp))).trans (hb2.mono (by simp at *; omega)), by have := hb2.size; simp at *; omega⟩
    clear hb1 hb2 c0 c1 hz1 hz2
    have hbA : Below w2.heap.size w2 (w2.alloc (.cells #[.int .u64 (bs.length : Int), .slice p1 m1 k1] 25)) := (Below.refl _ _).alloc (Nat.le_refl _) _
    have HIA := Lib.hid (HOB.out.is.below rfl hbA)
    have HBA := Lib.hid hbA
    have bkA := Blk.new w2 25 #[.int .u64 (bs.length : Int), .slice p1 m1 k1]
    clear hbA
    go_wp2_with fail
    refine (bools_any _ bs _ HIA.out (by omega)).mono ?_
    rintro e w4 ⟨vb, rfl, hown4, hb4⟩
    have hz4 := hb4.size
    rw [World.size_alloc] at hz4
    have HS4 := Lib.hid (Sl.of_owns hown4)
    have hSl := Sl.of_owns hown4
    obtain ⟨a4, n4, c4, rfl, hl4, _⟩ := hSl
    rw [bools_len] at hl4
    subst hl4
    have bk4 := bkA.below hb4 (by simp)
    have a0 : w4.cell? ⟨w2.heap.size, 0, none⟩ = some (.int .u64 (bs.length : Int)) := bk4.cell 0 rfl
    have a1 : w4.cell? ⟨w2.heap.size, 1, none⟩ = some (.slice p1 m1 k1) := bk4.cell 1 rfl
    have hdr : Below w4.heap.size w4 w4.drew := (Below.refl _ _).drew
    have HA100 := Lib.hid ((HIA.out.below rfl hb4).below rfl hdr)
    have HS100 := Lib.hid (HS4.out.below rfl hdr)
    have HT100 : Hid (Below w2.heap.size w2 w4.drew ∧ w2.heap.size < w4.drew.heap.size) := ⟨(HBA.out.trans (hb4.mono (by simp))).trans (hdr.mono (by omega)), by have e : w4.drew.heap.size = w4.heap.size := rfl; omega⟩
    clear hown4 hdr bk4 bkA hb4
    have hlt : w2.heap.size < w4.heap.size := by omega
    have x100 : w4.drew.cell? ⟨w2.heap.size, 0, none⟩ = some (.int .u64 (bs.length : Int)) := a0
    have y100 : w4.drew.cell? ⟨w2.heap.size, 1, none⟩ = some (.slice p1 m1 k1) := a1
    go_wp2_with fail
    go_region_held3 (fun w' => w'.cell? ⟨w2.heap.size, 0, none⟩ = some (.int .u64 (bs.length : Int)) ∧ w'.cell? ⟨w2.heap.size, 1, none⟩ = some (.slice p1 m1 k1))
      ((first | go_keep | exact ⟨by assumption, by assumption⟩ | assumption))
      ((first
        | (go_at_call 18; refine (same_yes _ _ _ _ hobcl.is HA113.out).mono ?_; rintro e w114 ⟨rfl, hb114⟩; obtain ⟨hc114, hf114⟩ := bcell hb114; have hz114 : w2.heap.size < w114.heap.size := (by have := hb114.size; have := HT113.out.2; simp at *; omega); have HT114 : Hid (Below w2.heap.size w2 w114 ∧ w2.heap.size < w114.heap.size) := ⟨HT113.out.1.trans (hb114.mono (Nat.le_of_lt HT113.out.2)), hz114⟩; have HA114 := Lib.hid (HA113.out.below rfl hb114); have x114 : w114.cell? ⟨w2.heap.size, 0, none⟩ = some (.int .u64 (bs.length : Int)) := (hb114.cell (p := ⟨w2.heap.size, 0, none⟩) HT113.out.2).trans x113; have y114 : w114.cell? ⟨w2.heap.size, 1, none⟩ = some (.slice p1 m1 k1) := (hb114.cell (p := ⟨w2.heap.size, 1, none⟩) HT113.out.2).trans y113; have HS114 := Lib.hid (HS113.out.below rfl hb114))
        | (go_at_call 43; refine (bsclone_any _ bs _ HA112.out hbl).mono ?_; rintro e w113 ⟨vcl, rfl, hobcl, hb113⟩; obtain ⟨hc113, hf113⟩ := bcell hb113; have hz113 : w2.heap.size < w113.heap.size := (by have := hb113.size; have := HT112.out.2; simp at *; omega); have HT113 : Hid (Below w2.heap.size w2 w113 ∧ w2.heap.size < w113.heap.size) := ⟨HT112.out.1.trans (hb113.mono (Nat.le_of_lt HT112.out.2)), hz113⟩; have HA113 := Lib.hid (HA112.out.below rfl hb113); have x113 : w113.cell? ⟨w2.heap.size, 0, none⟩ = some (.int .u64 (bs.length : Int)) := (hb113.cell (p := ⟨w2.heap.size, 0, none⟩) HT112.out.2).trans x112; have y113 : w113.cell? ⟨w2.heap.size, 1, none⟩ = some (.slice p1 m1 k1) := (hb113.cell (p := ⟨w2.heap.size, 1, none⟩) HT112.out.2).trans y112; have HS113 := Lib.hid (HS112.out.below rfl hb113))
        | (go_at_call 18; refine (same_yes _ _ _ _ (((hoba2.is).below rfl hb110).below rfl hb111) hobm2.is).mono ?_; rintro e w112 ⟨rfl, hb112⟩; obtain ⟨hc112, hf112⟩ := bcell hb112; have hz112 : w2.heap.size < w112.heap.size := (by have := hb112.size; have := HT111.out.2; simp at *; omega); have HT112 : Hid (Below w2.heap.size w2 w112 ∧ w2.heap.size < w112.heap.size) := ⟨HT111.out.1.trans (hb112.mono (Nat.le_of_lt HT111.out.2)), hz112⟩; have HA112 := Lib.hid (HA111.out.below rfl hb112); have x112 : w112.cell? ⟨w2.heap.size, 0, none⟩ = some (.int .u64 (bs.length : Int)) := (hb112.cell (p := ⟨w2.heap.size, 0, none⟩) HT111.out.2).trans x111; have y112 : w112.cell? ⟨w2.heap.size, 1, none⟩ = some (.slice p1 m1 k1) := (hb112.cell (p := ⟨w2.heap.size, 1, none⟩) HT111.out.2).trans y111; have HS112 := Lib.hid (HS111.out.below rfl hb112))
        | (go_at_call 20; refine (make_any _ _ _ (Sl.of_owns hown2) (by rw [put_len]; omega)).mono ?_; rintro e w111 ⟨vm2, rfl, hobm2, hb111⟩; obtain ⟨hc111, hf111⟩ := bcell hb111; have hz111 : w2.heap.size < w111.heap.size := (by have := hb111.size; have := HT110.out.2; simp at *; omega); have HT111 : Hid (Below w2.heap.size w2 w111 ∧ w2.heap.size < w111.heap.size) := ⟨HT110.out.1.trans (hb111.mono (Nat.le_of_lt HT110.out.2)), hz111⟩; have HA111 := Lib.hid (HA110.out.below rfl hb111); have x111 : w111.cell? ⟨w2.heap.size, 0, none⟩ = some (.int .u64 (bs.length : Int)) := (hb111.cell (p := ⟨w2.heap.size, 0, none⟩) HT110.out.2).trans x110; have y111 : w111.cell? ⟨w2.heap.size, 1, none⟩ = some (.slice p1 m1 k1) := (hb111.cell (p := ⟨w2.heap.size, 1, none⟩) HT110.out.2).trans y110; have HS111 := Lib.hid (HS110.out.below rfl hb111))
        | (go_at_call 21; refine (put_all _ bs 2 _ _ rfl rfl _ HS109.out (by omega) (by omega)).mono ?_; rintro e w110 ⟨vp2, rfl, hown2, hb110⟩; obtain ⟨hc110, hf110⟩ := bcell hb110; have hz110 : w2.heap.size < w110.heap.size := (by have := hb110.size; have := HT109.out.2; simp at *; omega); have HT110 : Hid (Below w2.heap.size w2 w110 ∧ w2.heap.size < w110.heap.size) := ⟨HT109.out.1.trans (hb110.mono (Nat.le_of_lt HT109.out.2)), hz110⟩; have HA110 := Lib.hid (HA109.out.below rfl hb110); have x110 : w110.cell? ⟨w2.heap.size, 0, none⟩ = some (.int .u64 (bs.length : Int)) := (hb110.cell (p := ⟨w2.heap.size, 0, none⟩) HT109.out.2).trans x109; have y110 : w110.cell? ⟨w2.heap.size, 1, none⟩ = some (.slice p1 m1 k1) := (hb110.cell (p := ⟨w2.heap.size, 1, none⟩) HT109.out.2).trans y109; have HS110 := Lib.hid (HS109.out.below rfl hb110))
        | (go_at_call 42; refine (bscomplement_any _ bs _ HA108.out hbl).mono ?_; rintro e w109 ⟨va2, rfl, hoba2, hb109⟩; obtain ⟨hc109, hf109⟩ := bcell hb109; have hz109 : w2.heap.size < w109.heap.size := (by have := hb109.size; have := HT108.out.2; simp at *; omega); have HT109 : Hid (Below w2.heap.size w2 w109 ∧ w2.heap.size < w109.heap.size) := ⟨HT108.out.1.trans (hb109.mono (Nat.le_of_lt HT108.out.2)), hz109⟩; have HA109 := Lib.hid (HA108.out.below rfl hb109); have x109 : w109.cell? ⟨w2.heap.size, 0, none⟩ = some (.int .u64 (bs.length : Int)) := (hb109.cell (p := ⟨w2.heap.size, 0, none⟩) HT108.out.2).trans x108; have y109 : w109.cell? ⟨w2.heap.size, 1, none⟩ = some (.slice p1 m1 k1) := (hb109.cell (p := ⟨w2.heap.size, 1, none⟩) HT108.out.2).trans y108; have HS109 := Lib.hid (HS108.out.below rfl hb109))
        | (go_at_call 18; refine (same_yes _ _ _ _ (((hoba1.is).below rfl hb106).below rfl hb107) hobm1.is).mono ?_; rintro e w108 ⟨rfl, hb108⟩; obtain ⟨hc108, hf108⟩ := bcell hb108; have hz108 : w2.heap.size < w108.heap.size := (by have := hb108.size; have := HT107.out.2; simp at *; omega); have HT108 : Hid (Below w2.heap.size w2 w108 ∧ w2.heap.size < w108.heap.size) := ⟨HT107.out.1.trans (hb108.mono (Nat.le_of_lt HT107.out.2)), hz108⟩; have HA108 := Lib.hid (HA107.out.below rfl hb108); have x108 : w108.cell? ⟨w2.heap.size, 0, none⟩ = some (.int .u64 (bs.length : Int)) := (hb108.cell (p := ⟨w2.heap.size, 0, none⟩) HT107.out.2).trans x107; have y108 : w108.cell? ⟨w2.heap.size, 1, none⟩ = some (.slice p1 m1 k1) := (hb108.cell (p := ⟨w2.heap.size, 1, none⟩) HT107.out.2).trans y107; have HS108 := Lib.hid (HS107.out.below rfl hb108))
        | (go_at_call 20; refine (make_any _ _ _ (Sl.of_owns hown1) (by rw [put_len]; omega)).mono ?_; rintro e w107 ⟨vm1, rfl, hobm1, hb107⟩; obtain ⟨hc107, hf107⟩ := bcell hb107; have hz107 : w2.heap.size < w107.heap.size := (by have := hb107.size; have := HT106.out.2; simp at *; omega); have HT107 : Hid (Below w2.heap.size w2 w107 ∧ w2.heap.size < w107.heap.size) := ⟨HT106.out.1.trans (hb107.mono (Nat.le_of_lt HT106.out.2)), hz107⟩; have HA107 := Lib.hid (HA106.out.below rfl hb107); have x107 : w107.cell? ⟨w2.heap.size, 0, none⟩ = some (.int .u64 (bs.length : Int)) := (hb107.cell (p := ⟨w2.heap.size, 0, none⟩) HT106.out.2).trans x106; have y107 : w107.cell? ⟨w2.heap.size, 1, none⟩ = some (.slice p1 m1 k1) := (hb107.cell (p := ⟨w2.heap.size, 1, none⟩) HT106.out.2).trans y106; have HS107 := Lib.hid (HS106.out.below rfl hb107))
        | (go_at_call 21; refine (put_all _ bs 1 _ _ rfl rfl _ HS105.out (by omega) (by omega)).mono ?_; rintro e w106 ⟨vp1, rfl, hown1, hb106⟩; obtain ⟨hc106, hf106⟩ := bcell hb106; have hz106 : w2.heap.size < w106.heap.size := (by have := hb106.size; have := HT105.out.2; simp at *; omega); have HT106 : Hid (Below w2.heap.size w2 w106 ∧ w2.heap.size < w106.heap.size) := ⟨HT105.out.1.trans (hb106.mono (Nat.le_of_lt HT105.out.2)), hz106⟩; have HA106 := Lib.hid (HA105.out.below rfl hb106); have x106 : w106.cell? ⟨w2.heap.size, 0, none⟩ = some (.int .u64 (bs.length : Int)) := (hb106.cell (p := ⟨w2.heap.size, 0, none⟩) HT105.out.2).trans x105; have y106 : w106.cell? ⟨w2.heap.size, 1, none⟩ = some (.slice p1 m1 k1) := (hb106.cell (p := ⟨w2.heap.size, 1, none⟩) HT105.out.2).trans y105; have HS106 := Lib.hid (HS105.out.below rfl hb106))
        | (go_at_call 41; refine (bssetall_any _ bs _ HA104.out hbl).mono ?_; rintro e w105 ⟨va1, rfl, hoba1, hb105⟩; obtain ⟨hc105, hf105⟩ := bcell hb105; have hz105 : w2.heap.size < w105.heap.size := (by have := hb105.size; have := HT104.out.2; simp at *; omega); have HT105 : Hid (Below w2.heap.size w2 w105 ∧ w2.heap.size < w105.heap.size) := ⟨HT104.out.1.trans (hb105.mono (Nat.le_of_lt HT104.out.2)), hz105⟩; have HA105 := Lib.hid (HA104.out.below rfl hb105); have x105 : w105.cell? ⟨w2.heap.size, 0, none⟩ = some (.int .u64 (bs.length : Int)) := (hb105.cell (p := ⟨w2.heap.size, 0, none⟩) HT104.out.2).trans x104; have y105 : w105.cell? ⟨w2.heap.size, 1, none⟩ = some (.slice p1 m1 k1) := (hb105.cell (p := ⟨w2.heap.size, 1, none⟩) HT104.out.2).trans y104; have HS105 := Lib.hid (HS104.out.below rfl hb105))
        | (go_at_call 18; refine (same_yes _ _ _ _ (((hoba0.is).below rfl hb102).below rfl hb103) hobm0.is).mono ?_; rintro e w104 ⟨rfl, hb104⟩; obtain ⟨hc104, hf104⟩ := bcell hb104; have hz104 : w2.heap.size < w104.heap.size := (by have := hb104.size; have := HT103.out.2; simp at *; omega); have HT104 : Hid (Below w2.heap.size w2 w104 ∧ w2.heap.size < w104.heap.size) := ⟨HT103.out.1.trans (hb104.mono (Nat.le_of_lt HT103.out.2)), hz104⟩; have HA104 := Lib.hid (HA103.out.below rfl hb104); have x104 : w104.cell? ⟨w2.heap.size, 0, none⟩ = some (.int .u64 (bs.length : Int)) := (hb104.cell (p := ⟨w2.heap.size, 0, none⟩) HT103.out.2).trans x103; have y104 : w104.cell? ⟨w2.heap.size, 1, none⟩ = some (.slice p1 m1 k1) := (hb104.cell (p := ⟨w2.heap.size, 1, none⟩) HT103.out.2).trans y103; have HS104 := Lib.hid (HS103.out.below rfl hb104))
        | (go_at_call 20; refine (make_any _ _ _ (Sl.of_owns hown0) (by rw [put_len]; omega)).mono ?_; rintro e w103 ⟨vm0, rfl, hobm0, hb103⟩; obtain ⟨hc103, hf103⟩ := bcell hb103; have hz103 : w2.heap.size < w103.heap.size := (by have := hb103.size; have := HT102.out.2; simp at *; omega); have HT103 : Hid (Below w2.heap.size w2 w103 ∧ w2.heap.size < w103.heap.size) := ⟨HT102.out.1.trans (hb103.mono (Nat.le_of_lt HT102.out.2)), hz103⟩; have HA103 := Lib.hid (HA102.out.below rfl hb103); have x103 : w103.cell? ⟨w2.heap.size, 0, none⟩ = some (.int .u64 (bs.length : Int)) := (hb103.cell (p := ⟨w2.heap.size, 0, none⟩) HT102.out.2).trans x102; have y103 : w103.cell? ⟨w2.heap.size, 1, none⟩ = some (.slice p1 m1 k1) := (hb103.cell (p := ⟨w2.heap.size, 1, none⟩) HT102.out.2).trans y102; have HS103 := Lib.hid (HS102.out.below rfl hb103))
        | (go_at_call 21; refine (put_all _ bs 0 _ _ rfl rfl _ HS101.out (by omega) (by omega)).mono ?_; rintro e w102 ⟨vp0, rfl, hown0, hb102⟩; obtain ⟨hc102, hf102⟩ := bcell hb102; have hz102 : w2.heap.size < w102.heap.size := (by have := hb102.size; have := HT101.out.2; simp at *; omega); have HT102 : Hid (Below w2.heap.size w2 w102 ∧ w2.heap.size < w102.heap.size) := ⟨HT101.out.1.trans (hb102.mono (Nat.le_of_lt HT101.out.2)), hz102⟩; have HA102 := Lib.hid (HA101.out.below rfl hb102); have x102 : w102.cell? ⟨w2.heap.size, 0, none⟩ = some (.int .u64 (bs.length : Int)) := (hb102.cell (p := ⟨w2.heap.size, 0, none⟩) HT101.out.2).trans x101; have y102 : w102.cell? ⟨w2.heap.size, 1, none⟩ = some (.slice p1 m1 k1) := (hb102.cell (p := ⟨w2.heap.size, 1, none⟩) HT101.out.2).trans y101; have HS102 := Lib.hid (HS101.out.below rfl hb102))
        | (go_at_call 40; refine (bsclearall_any _ bs _ HA100.out hbl).mono ?_; rintro e w101 ⟨va0, rfl, hoba0, hb101⟩; obtain ⟨hc101, hf101⟩ := bcell hb101; have hz101 : w2.heap.size < w101.heap.size := (by have := hb101.size; have := HT100.out.2; simp at *; omega); have HT101 : Hid (Below w2.heap.size w2 w101 ∧ w2.heap.size < w101.heap.size) := ⟨HT100.out.1.trans (hb101.mono (Nat.le_of_lt HT100.out.2)), hz101⟩; have HA101 := Lib.hid (HA100.out.below rfl hb101); have x101 : w101.cell? ⟨w2.heap.size, 0, none⟩ = some (.int .u64 (bs.length : Int)) := (hb101.cell (p := ⟨w2.heap.size, 0, none⟩) HT100.out.2).trans x100; have y101 : w101.cell? ⟨w2.heap.size, 1, none⟩ = some (.slice p1 m1 k1) := (hb101.cell (p := ⟨w2.heap.size, 1, none⟩) HT100.out.2).trans y100; have HS101 := Lib.hid (HS100.out.below rfl hb101))))
    go_wp2_with fail
    go_ret
    exact ⟨rfl, HT.out.1.trans (HT114.out.1.mono HT.out.2)⟩
  · have HF := Lib.hid (show decide ((m : Int) ≤ 2147483647) = false by simpa using hf)
    clear hf
    go_enter Try.func11, Try.ntmps11
    go_wp2_with fail
    refine (fits_any _ a m cap _ hmm).mono ?_
    rintro e w1 ⟨rfl, hb1⟩
    rw [HF.out]
    go_wp2_with fail
    go_ret
    exact ⟨rfl, HB0.out.trans (hb1.mono (by simp))⟩
end Go.Proofs.Ytbgmkojiklphmaa
