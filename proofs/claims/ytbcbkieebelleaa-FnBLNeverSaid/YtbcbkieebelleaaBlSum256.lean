/- Walk of sum256: four values that depend on the bytes alone. -/
import Derived.Test.YtbcbkieebelleaaBlSum
import Derived.Outline
import Derived.Deep.DeepFit
import Derived.Deep.RegionHeld3
namespace Go.Proofs.Ytbcbkieebelleaa
set_option linter.unusedVariables false
open Go.RowKit

theorem By.tail {B q : Nat} {w : World} {b o : Nat} {bs : List Int} (h : By B w (some ⟨b, o, none⟩) bs) : By B w (some ⟨b, o + q, none⟩) (bs.drop q) := by
  intro h0
  have hl : 0 < bs.length := by simp at h0; omega
  obtain ⟨b', o', e, h1, h2, hc⟩ := h hl
  cases e
  refine ⟨_, _, rfl, h1, h2, fun i v hv => ?_⟩
  rw [Nat.add_assoc]
  exact hc (q + i) v (by rw [← hv, List.getElem?_drop])
theorem By.drewN {B : Nat} {w : World} {a : Option Addr} {bs : List Int} (h : By B w a bs) {k : Nat} : By B (w.drewN k) a bs := h
theorem results_tmp4 {fn : Func} {t u v x : Tmp} (h : fn.results = #[.tmp t, .tmp u, .tmp v, .tmp x]) (tmps : Array Value) (P : Program) (w : World) :
    (results fn tmps).run P w = .ok (.tuple #[tmps.getD t undef, tmps.getD u undef, tmps.getD v undef, tmps.getD x undef]) w := by
  simp [results, h]
theorem choose2 {P : Int → Int → Int → Int → Prop} (h : ∀ y1 y2, ∃ r1 r2, P y1 y2 r1 r2) : ∃ R1 R2 : Int → Int → Int, ∀ y1 y2, P y1 y2 (R1 y1 y2) (R2 y1 y2) :=
  ⟨fun y1 y2 => Classical.choose (h y1 y2), fun y1 y2 => Classical.choose (Classical.choose_spec (h y1 y2)), fun y1 y2 => Classical.choose_spec (Classical.choose_spec (h y1 y2))⟩
theorem By.nil (B : Nat) (w : World) (a : Option Addr) : By B w a [] := fun h => absurd h (by simp)

set_option maxRecDepth 100000 in
set_option maxHeartbeats 4000000 in
theorem sum256_ex (bs : List Int) (hn : bs.length ≤ 100000) : ∃ r1 r2 r3 r4 : Int, ∀ (B d cap : Nat) (y1 y2 : Int) (a : Option Addr) (w : World), Dg w d y1 y2 → By B w a bs → B ≤ d → bs.length ≤ cap → cap ≤ 9223372036854775807 → (0 < bs.length → ∃ b o, a = some ⟨b, o, none⟩) →
    Calls Try.prog 82 #[.pointer (some ⟨d, 0, none⟩), .slice a bs.length cap] w fun e w' => e = .returned (.tuple #[.int .u64 r1, .int .u64 r2, .int .u64 r3, .int .u64 r4]) ∧
      Below B w w' ∧ w.heap.size ≤ w'.heap.size := by
  obtain ⟨m1, m2, hM⟩ := mix_ex bs 0 0 hn
  obtain ⟨n, hnl⟩ : ∃ n, bs.length = n := ⟨_, rfl⟩
  obtain ⟨T, hT⟩ : ∃ T, n % 16 = T := ⟨_, rfl⟩
  obtain ⟨q, hq⟩ : ∃ q, n - T = q := ⟨_, rfl⟩
  have hdl : (bs.drop q).length = T := by rw [List.length_drop]; omega
  obtain ⟨r1, r2, hS1⟩ := sum_ex (bs.drop q) false m1 m2 (n : Int) (by omega) (by simp)
  rw [hnl] at hn hM ⊢
  rw [hdl] at hS1
  by_cases hT15 : T = 15
  · subst hT15
    obtain ⟨U, hU⟩ := u64_ex
    obtain ⟨V, hV⟩ := u32_ex
    obtain ⟨G1, G2, hG⟩ := bw_ex
    have hR0 := fun y1 y2 : Int => sum_ex [] false y1 y2 ((n : Int) + 1) (by simp) (by simp)
    obtain ⟨R1, R2, hR⟩ := choose2 hR0
    clear hR0
    have HM0 := Lib.hid hM
    have HNL0 := Lib.hid hnl
    have HT0 := Lib.hid hT
    have HQ0 := Lib.hid hq
    have HDL0 := Lib.hid hdl
    have HS0 := Lib.hid hS1
    have HU0 := Lib.hid hU
    have HV0 := Lib.hid hV
    have HG0 := Lib.hid hG
    have HR0 := Lib.hid hR
    clear hM hnl hT hq hdl hS1 hU hV hG hR
    obtain ⟨K1, hK1⟩ : ∃ K, U (bs.getD (q + 0) 0) (bs.getD (q + 1) 0) (bs.getD (q + 2) 0) (bs.getD (q + 3) 0) (bs.getD (q + 4) 0) (bs.getD (q + 5) 0) (bs.getD (q + 6) 0) (bs.getD (q + 7) 0) = K := ⟨_, rfl⟩
    obtain ⟨K2, hK2⟩ : ∃ K, V (bs.getD (q + 8) 0) (bs.getD (q + 9) 0) (bs.getD (q + 10) 0) (bs.getD (q + 11) 0) = K := ⟨_, rfl⟩
    obtain ⟨Y, hY⟩ : ∃ Y : Nat → Int, Y = fun j => bs.getD (q + j) 0 := ⟨_, rfl⟩
    have HK10 := Lib.hid hK1
    have HK20 := Lib.hid hK2
    have HY0 := Lib.hid hY
    clear hK1 hK2 hY
    refine ⟨r1, r2, ?_⟩
    apply Exists.intro
    apply Exists.intro
    intro B d cap y1 y2 a w hd hby hB hcap hcm han
    have hM := HM0.out
    have hnl := HNL0.out
    have hT := HT0.out
    have hq := HQ0.out
    have hdl := HDL0.out
    have hS1 := HS0.out
    have hU := HU0.out
    have hV := HV0.out
    have hG := HG0.out
    have hR := HR0.out
    have c0 : w.cell? ⟨d, 0, none⟩ = some (.int .u64 y1) := hd.cell 0 rfl
    have c1 : w.cell? ⟨d, 1, none⟩ = some (.int .u64 y2) := hd.cell 1 rfl
    have f0 := hd.free 0
    have f1 := hd.free 1
    have HD := Lib.hid hd
    have HBY := Lib.hid hby
    have HNL := Lib.hid hnl
    have HB := Lib.hid hB
    obtain ⟨b, o, rfl⟩ := han (by omega)
    have x1 : (n : Int) % 16 = 15 := by omega
    have x2 : (n : Int).tmod 16 = 15 := by rw [Int.tmod_eq_emod_of_nonneg (by omega)]; omega
    have x3 : IntKind.u64.wrap ((n : Int) - 15) = (q : Int) := by rw [IntKind.wrap_u64]; omega
    have hqn : q ≤ n := by omega
    have x4 : n - q = 15 := by omega
    have x5 : (((15 : Int) + 1) == 16) = true := by decide
    have HT := Lib.hid hT
    clear hd hby hB hnl hT hq hdl
    go_enter Try.func82, Try.ntmps82
    go_wp2_with fail
    have hbs : Below B w ((w.setCell ⟨d, 0, none⟩ (.int .u64 0)).setCell ⟨d, 1, none⟩ (.int .u64 0)) := ((Below.refl _ _).setCell (p := ⟨d, 0, none⟩) HB.out _).setCell (p := ⟨d, 1, none⟩) HB.out _
    have hds : Dg ((w.setCell ⟨d, 0, none⟩ (.int .u64 0)).setCell ⟨d, 1, none⟩ (.int .u64 0)) d 0 0 := (HD.out.set 0 _).set 1 _
    have hzs : w.heap.size ≤ ((w.setCell ⟨d, 0, none⟩ (.int .u64 0)).setCell ⟨d, 1, none⟩ (.int .u64 0)).heap.size := by simp
    refine (hM B d n cap _ _ hds (HBY.out.below hbs (Nat.le_refl _) hzs) HB.out rfl hcap hcm).mono ?_
    rintro e w1 ⟨rfl, hd1, hb1, hz1⟩
    have HB1 := Lib.hid (hbs.trans hb1)
    have HZ1 := Lib.hid (Nat.le_trans hzs hz1)
    have HD1 := Lib.hid hd1
    have HBY1 := Lib.hid (HBY.out.below HB1.out (Nat.le_refl _) HZ1.out)
    have HBwy : B ≤ w.heap.size := by
      obtain ⟨_, _, _, _, h, _⟩ := HBY.out (by rw [HNL.out]; omega)
      exact h
    have HS1 := Lib.hid hS1
    have HTA : Hid (By B w1 (some ⟨b, o + q, none⟩) (bs.drop q)) := Lib.hid HBY1.out.tail
    obtain ⟨C, hC⟩ : ∃ C : Nat, cap - q = C := ⟨_, rfl⟩
    have z1 : 15 ≤ C := by omega
    have z2 : (8 : Int) ≤ (C : Int) := by omega
    have z3 : 8 ≤ C := by omega
    have z4 : (12 : Int) ≤ (C : Int) := by omega
    have z5 : 12 ≤ C := by omega
    have z6 : ¬ C = 8 := by omega
    have z7 : ¬ cap = q := by omega
    have hcell : ∀ j, j < 15 → ∀ w5, Below w1.heap.size w1 w5 → w5.cell? ⟨b, o + q + j, none⟩ = some (.int .u8 (bs.getD (q + j) 0)) := by
      intro j hj w5 hb5
      obtain ⟨b', o', e', hlt, hle, hc⟩ := HBY1.out (by rw [HNL.out]; omega)
      cases e'
      have hl : q + j < bs.length := by rw [HNL.out]; omega
      have h := hc (q + j) (bs[q + j]'hl) (List.getElem?_eq_getElem hl)
      have e : bs.getD (q + j) 0 = bs[q + j]'hl := by
        rw [List.getD_eq_getElem?_getD, List.getElem?_eq_getElem hl]; rfl
      rw [e, Nat.add_assoc]
      exact (hb5.cell (p := ⟨b, o + (q + j), none⟩) (by simp only []; omega)).trans h
    have HK1 : Hid (∀ w5, Below w1.heap.size w1 w5 → ∀ c, Calls Try.prog 88 #[.agg #[], .slice (some ⟨b, o + q, none⟩) 8 c] w5 fun e w' => e = .returned (.int .u64 K1) ∧ Below w5.heap.size w5 w') :=
      Lib.hid fun w5 h c => by
        have hz := hU _ _ _ _ _ _ _ _ b (o + q) c w5 (hcell 0 (by omega) w5 h) (hcell 1 (by omega) w5 h) (hcell 2 (by omega) w5 h) (hcell 3 (by omega) w5 h) (hcell 4 (by omega) w5 h) (hcell 5 (by omega) w5 h) (hcell 6 (by omega) w5 h) (hcell 7 (by omega) w5 h)
        rw [HK10.out] at hz
        exact hz
    have HK2 : Hid (∀ w5, Below w1.heap.size w1 w5 → ∀ c, Calls Try.prog 89 #[.agg #[], .slice (some ⟨b, o + q + 8, none⟩) 4 c] w5 fun e w' => e = .returned (.int .u32 K2) ∧ Below w5.heap.size w5 w') :=
      Lib.hid fun w5 h c => by
        have hz := hV _ _ _ _ b (o + q + 8) c w5 (hcell 8 (by omega) w5 h) (hcell 9 (by omega) w5 h) (hcell 10 (by omega) w5 h) (hcell 11 (by omega) w5 h)
        rw [HK20.out] at hz
        exact hz
    have HCELL := Lib.hid hcell
    have HR := Lib.hid hR
    have HG := Lib.hid hG
    clear hbs hds hzs hb1 hz1 hd1 c0 c1 f0 f1 hM hS1 hcell hU hV hR hG han
    have HBW : Hid (B ≤ w.heap.size) := Lib.hid HBwy
    clear HBwy
    by_cases hcn : cap = n
    · go_wp2_with fail
      refine (HS1.out B d _ _ _ w1 HD1.out HTA.out rfl).mono ?_
      rintro e w2 ⟨rfl, k5, rfl⟩
      have HT : Hid (Below w1.heap.size w1 (w1.drewN k5).drew) := Lib.hid (below_drewN (Below.refl _ _) _).drew
      go_wp2_with fail
      go_region_held3 (fun w' => True) (exact trivial)
        ((go_at_call 88; go_fit (HK1.out _ HT.out _); rintro e wn ⟨rfl, hbn⟩; have HT := Lib.hid (HT.out.trans (hbn.mono HT.out.size)); clear hbn))
      have HT : Hid (Below w1.heap.size w1 wn.drew) := Lib.hid HT.out.drew
      go_wp2_with fail
      go_region_held3 (fun w' => True) (exact trivial)
        ((go_at_call 89; go_fit (HK2.out _ HT.out _); rintro e wm ⟨rfl, hbn⟩; have HT := Lib.hid (HT.out.trans (hbn.mono HT.out.size)); clear hbn))
      have e12 : wm.cell? ⟨b, o + q + 12, none⟩ = some (.int .u8 (Y 12)) := by rw [HY0.out]; exact HCELL.out 12 (by omega) wm HT.out
      have e13 : wm.cell? ⟨b, o + q + 13, none⟩ = some (.int .u8 (Y 13)) := by rw [HY0.out]; exact HCELL.out 13 (by omega) wm HT.out
      have e14 : wm.cell? ⟨b, o + q + 14, none⟩ = some (.int .u8 (Y 14)) := by rw [HY0.out]; exact HCELL.out 14 (by omega) wm HT.out
      go_wp2_with fail
      go_quiet (fail)
      have HDM : Hid (Dg (wm.drewN nq) d m1 m2) := Lib.hid ((HD1.out.below HT.out HD1.out.lt).drewN nq)
      have HBM : Hid (Below B w (wm.drewN nq)) := Lib.hid (below_drewN (HB1.out.trans (HT.out.mono (Nat.le_trans HBW.out HZ1.out))) nq)
      have HZM : Hid (w.heap.size ≤ (wm.drewN nq).heap.size) := Lib.hid (Nat.le_trans HZ1.out HT.out.size)
      clear e12 e13 e14
      go_wp2_with fail
      refine (HG.out B d _ _ _ _ _ HDM.out HB.out).mono ?_
      rintro e wp ⟨rfl, hdp, hbp, hsp⟩
      have HDP := Lib.hid hdp
      have HBP := Lib.hid (HBM.out.trans hbp)
      have HZP : Hid (w.heap.size ≤ wp.heap.size) := Lib.hid (by rw [hsp]; exact HZM.out)
      clear hdp hbp hsp
      go_wp2_with fail
      refine (HR.out _ _ B d _ _ _ wp HDP.out (By.nil _ _ _) rfl).mono ?_
      rintro e wq ⟨rfl, k6, rfl⟩
      go_wp2_with fail
      refine bodyPost_ret (results_tmp4 rfl _ _ _) rfl ?_
      exact ⟨rfl, below_drewN HBP.out _, HZP.out⟩
    · go_wp2_with fail
      refine (HS1.out B d _ _ _ w1 HD1.out HTA.out rfl).mono ?_
      rintro e w2 ⟨rfl, k5, rfl⟩
      have HT : Hid (Below w1.heap.size w1 (w1.drewN k5).drew) := Lib.hid (below_drewN (Below.refl _ _) _).drew
      go_wp2_with fail
      go_region_held3 (fun w' => True) (exact trivial)
        ((go_at_call 88; go_fit (HK1.out _ HT.out _); rintro e wn ⟨rfl, hbn⟩; have HT := Lib.hid (HT.out.trans (hbn.mono HT.out.size)); clear hbn))
      have HT : Hid (Below w1.heap.size w1 wn.drew) := Lib.hid HT.out.drew
      go_wp2_with fail
      go_region_held3 (fun w' => True) (exact trivial)
        ((go_at_call 89; go_fit (HK2.out _ HT.out _); rintro e wm ⟨rfl, hbn⟩; have HT := Lib.hid (HT.out.trans (hbn.mono HT.out.size)); clear hbn))
      have e12 : wm.cell? ⟨b, o + q + 12, none⟩ = some (.int .u8 (Y 12)) := by rw [HY0.out]; exact HCELL.out 12 (by omega) wm HT.out
      have e13 : wm.cell? ⟨b, o + q + 13, none⟩ = some (.int .u8 (Y 13)) := by rw [HY0.out]; exact HCELL.out 13 (by omega) wm HT.out
      have e14 : wm.cell? ⟨b, o + q + 14, none⟩ = some (.int .u8 (Y 14)) := by rw [HY0.out]; exact HCELL.out 14 (by omega) wm HT.out
      go_wp2_with fail
      go_quiet (fail)
      have HDM : Hid (Dg (wm.drewN nq) d m1 m2) := Lib.hid ((HD1.out.below HT.out HD1.out.lt).drewN nq)
      have HBM : Hid (Below B w (wm.drewN nq)) := Lib.hid (below_drewN (HB1.out.trans (HT.out.mono (Nat.le_trans HBW.out HZ1.out))) nq)
      have HZM : Hid (w.heap.size ≤ (wm.drewN nq).heap.size) := Lib.hid (Nat.le_trans HZ1.out HT.out.size)
      clear e12 e13 e14
      go_wp2_with fail
      refine (HG.out B d _ _ _ _ _ HDM.out HB.out).mono ?_
      rintro e wp ⟨rfl, hdp, hbp, hsp⟩
      have HDP := Lib.hid hdp
      have HBP := Lib.hid (HBM.out.trans hbp)
      have HZP : Hid (w.heap.size ≤ wp.heap.size) := Lib.hid (by rw [hsp]; exact HZM.out)
      clear hdp hbp hsp
      go_wp2_with fail
      refine (HR.out _ _ B d _ _ _ wp HDP.out (By.nil _ _ _) rfl).mono ?_
      rintro e wq ⟨rfl, k6, rfl⟩
      go_wp2_with fail
      refine bodyPost_ret (results_tmp4 rfl _ _ _) rfl ?_
      exact ⟨rfl, below_drewN HBP.out _, HZP.out⟩
  · obtain ⟨r3, r4, hS2⟩ := sum_ex (bs.drop q) true m1 m2 ((n : Int) + 1) (by omega) (by omega)
    rw [hdl] at hS2
    refine ⟨r1, r2, r3, r4, ?_⟩
    intro B d cap y1 y2 a w hd hby hB hcap hcm han
    have c0 : w.cell? ⟨d, 0, none⟩ = some (.int .u64 y1) := hd.cell 0 rfl
    have c1 : w.cell? ⟨d, 1, none⟩ = some (.int .u64 y2) := hd.cell 1 rfl
    have f0 := hd.free 0
    have f1 := hd.free 1
    have HD := Lib.hid hd
    have HBY := Lib.hid hby
    have HNL := Lib.hid hnl
    have HB := Lib.hid hB
    have x1 : (n : Int) % 16 = (T : Int) := by omega
    have x2 : (n : Int).tmod 16 = (T : Int) := by rw [Int.tmod_eq_emod_of_nonneg (by omega)]; omega
    have x3 : IntKind.u64.wrap ((n : Int) - (T : Int)) = (q : Int) := by rw [IntKind.wrap_u64]; omega
    have hqn : q ≤ n := by omega
    have x4 : n - q = T := by omega
    have x5 : (((T : Int) + 1) == 16) = false := by simp; omega
    have HT := Lib.hid hT
    clear hd hby hB hnl hT hq hdl
    go_enter Try.func82, Try.ntmps82
    go_wp2_with fail
    have hbs : Below B w ((w.setCell ⟨d, 0, none⟩ (.int .u64 0)).setCell ⟨d, 1, none⟩ (.int .u64 0)) := ((Below.refl _ _).setCell (p := ⟨d, 0, none⟩) HB.out _).setCell (p := ⟨d, 1, none⟩) HB.out _
    have hds : Dg ((w.setCell ⟨d, 0, none⟩ (.int .u64 0)).setCell ⟨d, 1, none⟩ (.int .u64 0)) d 0 0 := (HD.out.set 0 _).set 1 _
    have hzs : w.heap.size ≤ ((w.setCell ⟨d, 0, none⟩ (.int .u64 0)).setCell ⟨d, 1, none⟩ (.int .u64 0)).heap.size := by simp
    refine (hM B d n cap _ _ hds (HBY.out.below hbs (Nat.le_refl _) hzs) HB.out rfl hcap hcm).mono ?_
    rintro e w1 ⟨rfl, hd1, hb1, hz1⟩
    have HB1 := Lib.hid (hbs.trans hb1)
    have HZ1 := Lib.hid (Nat.le_trans hzs hz1)
    have HD1 := Lib.hid hd1
    have HBY1 := Lib.hid (HBY.out.below HB1.out (Nat.le_refl _) HZ1.out)
    have HS1 := Lib.hid hS1
    have HS2 := Lib.hid hS2
    clear hbs hds hzs hb1 hz1 hd1 c0 c1 f0 f1 hM hS1 hS2
    have hway : (T = 0 ∧ cap = q) ∨ (T = 0 ∧ ¬ cap = q) ∨ (0 < T ∧ ¬ cap = q ∧ ∃ b o, a = some ⟨b, o, none⟩) := by
      by_cases h1 : T = 0
      · by_cases h2 : cap = q
        · exact .inl ⟨h1, h2⟩
        · exact .inr (.inl ⟨h1, h2⟩)
      · exact .inr (.inr ⟨by omega, by omega, han (by omega)⟩)
    clear han
    have hnil : T = 0 → ∀ ta, By B w1 ta (bs.drop q) := by
      intro h ta
      have h0 : bs.drop q = [] := by rw [List.drop_eq_nil_iff, HNL.out]; omega
      rw [h0]; exact By.nil _ _ _
    rcases hway with ⟨h0, h1⟩ | ⟨h0, h1⟩ | ⟨h0, h1, b, o, rfl⟩
    · have HTA := Lib.hid (hnil h0)
      clear hnil
      subst h1 h0
      go_wp2_with fail
      refine (HS1.out B d _ _ _ w1 HD1.out (HTA.out _) rfl).mono ?_
      rintro e w2 ⟨rfl, k5, rfl⟩
      go_wp2_with fail
      refine (HS2.out B d _ _ _ (w1.drewN k5) (HD1.out.drewN k5) (By.drewN (HTA.out _)) rfl).mono ?_
      rintro e w2 ⟨rfl, k6, rfl⟩
      go_wp2_with fail
      refine bodyPost_ret (v := .tuple #[.int .u64 r1, .int .u64 r2, .int .u64 r3, .int .u64 r4]) (by simp [results, Try.results82, go_sem, *]) rfl ?_
      exact ⟨rfl, below_drewN HB1.out _, HZ1.out⟩
    · have HTA := Lib.hid (hnil h0)
      clear hnil
      subst h0
      cases a with
      | none =>
        go_wp2_with fail
        refine (HS1.out B d _ _ _ w1 HD1.out (HTA.out _) rfl).mono ?_
        rintro e w2 ⟨rfl, k5, rfl⟩
        go_wp2_with fail
        refine (HS2.out B d _ _ _ (w1.drewN k5) (HD1.out.drewN k5) (By.drewN (HTA.out _)) rfl).mono ?_
        rintro e w2 ⟨rfl, k6, rfl⟩
        go_wp2_with fail
        refine bodyPost_ret (v := .tuple #[.int .u64 r1, .int .u64 r2, .int .u64 r3, .int .u64 r4]) (by simp [results, Try.results82, go_sem, *]) rfl ?_
        exact ⟨rfl, below_drewN HB1.out _, HZ1.out⟩
      | some p =>
        go_wp2_with fail
        refine (HS1.out B d _ _ _ w1 HD1.out (HTA.out _) rfl).mono ?_
        rintro e w2 ⟨rfl, k5, rfl⟩
        go_wp2_with fail
        refine (HS2.out B d _ _ _ (w1.drewN k5) (HD1.out.drewN k5) (By.drewN (HTA.out _)) rfl).mono ?_
        rintro e w2 ⟨rfl, k6, rfl⟩
        go_wp2_with fail
        refine bodyPost_ret (v := .tuple #[.int .u64 r1, .int .u64 r2, .int .u64 r3, .int .u64 r4]) (by simp [results, Try.results82, go_sem, *]) rfl ?_
        exact ⟨rfl, below_drewN HB1.out _, HZ1.out⟩
    · have HTA : Hid (∀ x : Unit, By B w1 (some ⟨b, o + q, none⟩) (bs.drop q)) := Lib.hid (fun _ => HBY1.out.tail)
      clear hnil
      go_wp2_with fail
      refine (HS1.out B d _ _ _ w1 HD1.out (HTA.out ()) rfl).mono ?_
      rintro e w2 ⟨rfl, k5, rfl⟩
      go_wp2_with fail
      refine (HS2.out B d _ _ _ (w1.drewN k5) (HD1.out.drewN k5) (By.drewN (HTA.out ())) rfl).mono ?_
      rintro e w2 ⟨rfl, k6, rfl⟩
      go_wp2_with fail
      refine bodyPost_ret (v := .tuple #[.int .u64 r1, .int .u64 r2, .int .u64 r3, .int .u64 r4]) (by simp [results, Try.results82, go_sem, *]) rfl ?_
      exact ⟨rfl, below_drewN HB1.out _, HZ1.out⟩
end Go.Proofs.Ytbcbkieebelleaa
