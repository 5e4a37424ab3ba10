/- impl: (*fhHeap).step where a priority is decreased. -/
import Derived.Test.YtmhackiiiehlmaaFhStep
namespace Go.Proofs.Ytmhackiiiehlmaa
set_option linter.unusedVariables false
open Go.RowKit Fh

set_option maxRecDepth 100000 in
set_option maxHeartbeats 16000000 in
theorem step4_any (B hb : Nat) (F : List Nat) (L : List (Option Int)) (j : Nat) (p q : Int) (w : World) (h : HsAt B w hb F L) (hn : L.length ≤ 500) (hB : B ≤ w.heap.size) (hL : L[j]? = some (some q)) (hp : Sm p) (hpq : p < q) :
    Calls Try.prog 14 #[.pointer (some ⟨hb, 0, none⟩), stepV 4 (j : Int) p] w (StepPost B hb F true (j : Int) p (L.set j (some p)) w) := by
  obtain ⟨hq, s, A, D, R, m, tp, n, c, Es, hs, rfl, rfl⟩ := h
  have hlen := hs.len
  rw [List.length_map, hlen] at hn
  obtain ⟨a, hja, hpa⟩ := at_pr hL
  obtain ⟨a0, j0, rfl, -, -, -, -⟩ := hs_min hs hja
  have hjn : j < n := by have := (List.getElem?_eq_some_iff.1 hja).1; omega
  have haD : a ∈ D := (hs.de a).2 (List.mem_of_getElem? hja)
  obtain ⟨g, rfl⟩ : ∃ g, tp = some ⟨g, 0, none⟩ := by
    rcases hs.ho.2 with ⟨e, h0⟩ | ⟨g, cap, cur, e, _⟩
    · omega
    · injection e with e1 e2 e3
      exact ⟨g, e1⟩
  have HS := Lib.hid hs
  have HJA := Lib.hid hja
  have hlt := hs.hk.lt
  have hlt2 := hs.hp.2.2.2.2.lt
  have HEN := Lib.hid (fun w2 (h2 : Hp w2 hq s A D R (some a0)) => deckey_any hq s A D R a0 a p w2 h2 (hs_dcount hs hn) haD hp (by rw [hpa]; exact hpq))
  have haA := hs.hp.2.1 a haD
  have HP := Lib.hid hp
  have hfl : ∀ w, (convert 3 57 (.int .i64 p)).run Try.prog w = .ok (.float .f64 (fl p)) w := by
    intro w; exact run_convert_int_float w 3 57 .i64 .f64 p (by kernel_rfl) (by kernel_rfl)
  have hji : (j : Int) < (n : Int) := by omega
  have hj0 : (0 : Int) ≤ (j : Int) := by omega
  have hjd : decide ((j : Int) < 0) = false := by rw [decide_eq_false_iff_not]; omega
  have hjd2 : decide (n ≤ j) = false := by rw [decide_eq_false_iff_not]; omega
  clear hs hL hja haD hp
  unfold stepV
  go_enter Try.func14, Try.ntmps14
  go_upto_region 14 with fail
  obtain ⟨wb, hwb⟩ : ∃ wb, wb = ((w.alloc (.cells #[.int .i64 4, .int .i64 (j : Int), .int .i64 p, .slice none 0 0] 32)).alloc (.cells #[.bool false, .int .i64 0, .int .i64 0, .int .i64 0, .bool false] 37)) := ⟨_, rfl⟩
  have hsz : wb.heap.size = w.heap.size + 2 := by rw [hwb, World.size_alloc, World.size_alloc]
  have hbel : Below w.heap.size w wb := by rw [hwb]; exact ((Below.refl _ _).alloc (Nat.le_refl _) _).alloc (by simp) _
  have hbox : Blk wb w.heap.size 32 #[.int .i64 4, .int .i64 (j : Int), .int .i64 p, .slice none 0 0] := by rw [hwb]; exact (Blk.new w _ _).alloc _
  have hres : Blk wb (w.heap.size + 1) 37 #[.bool false, .int .i64 0, .int .i64 0, .int .i64 0, .bool false] := by
    rw [hwb]
    have q := Blk.new (w.alloc (.cells #[.int .i64 4, .int .i64 (j : Int), .int .i64 p, .slice none 0 0] 32)) 37 #[.bool false, .int .i64 0, .int .i64 0, .int .i64 0, .bool false]
    rw [World.size_alloc] at q
    exact q
  rw [← hwb]
  clear hwb
  have hs1 := HS.out.below hbel
  have HS1 := Lib.hid hs1
  have HBEL := Lib.hid hbel
  have HRES := Lib.hid hres
  have HBOX := Lib.hid hbox
  have c0 := hs1.hk.cell 0 rfl
  have c1 := hs1.hk.cell 1 rfl
  have b0 := hbox.cell 0 rfl
  have b1 := hbox.cell 1 rfl
  have b2 := hbox.cell 2 rfl
  have ej : wb.cell? ⟨g, j, none⟩ = some (.pointer (some ⟨a, 0, none⟩)) := by
    rw [hs1.ho.cellAt j (by omega), List.getElem?_map, HJA.out]; rfl
  have hltw : hb < wb.heap.size := by omega
  clear hs1 hres hbel hbox
  go_quiet (fail)
  go_upto_region 16 with fail
  obtain ⟨wq, hwq⟩ : ∃ wq, wq = wb.drewN nq := ⟨_, rfl⟩
  have HSq : Hid (Hs B wq hb hq s A D R (some a0) (some ⟨g, 0, none⟩) n c Es) := Lib.hid (by
    rw [hwq]
    have h := HS1.out
    exact ⟨h.hp, h.hk, h.ho, h.de, h.un, h.bA⟩)
  have HRq : Hid (Blk wq (w.heap.size + 1) 37 #[.bool false, .int .i64 0, .int .i64 0, .int .i64 0, .bool false]) := Lib.hid (by rw [hwq]; exact HRES.out)
  have HBq : Hid (Below w.heap.size w wq) := Lib.hid (by rw [hwq]; have h := HBEL.out; exact ⟨h.os, h.tape, h.output, h.size, h.block⟩)
  have e0 : wq.cell? ⟨hb, 0, none⟩ = some (.pointer (some ⟨hq, 0, none⟩)) := by rw [hwq]; exact c0
  have e1 : wq.cell? ⟨hb, 1, none⟩ = some (.slice (some ⟨g, 0, none⟩) n c) := by rw [hwq]; exact c1
  have e2 : wq.cell? ⟨w.heap.size, 1, none⟩ = some (.int .i64 (j : Int)) := by rw [hwq]; exact b1
  have e3 : wq.cell? ⟨w.heap.size, 2, none⟩ = some (.int .i64 p) := by rw [hwq]; exact b2
  have e4 : wq.cell? ⟨g, j, none⟩ = some (.pointer (some ⟨a, 0, none⟩)) := by rw [hwq]; exact ej
  have hszq : wq.heap.size = w.heap.size + 2 := by rw [hwq]; exact hsz
  rw [← hwq]
  clear hwq c0 c1 b0 b1 b2 ej HS1 HRES HBEL HBOX hsz hltw
  have hltq : hb < wq.heap.size := by omega
  have HPQ := Lib.hid (by rw [hpa]; exact hpq : p < s.pr a)
  have HUN := Lib.hid (HS.out.un a)
  obtain ⟨F1, hF1⟩ : ∃ F1, fl p = F1 := ⟨_, rfl⟩
  rw [hF1] at hfl HEN
  have HSDK : Hid (∀ wd s' R' m', Hp wd hq s' A D R' m' → s'.pr = upd s.pr a p → Fr (hq :: A) (hq :: A) wq wd → Calls Try.prog 20 #[.pointer (some ⟨hb, 0, none⟩), .pointer (some ⟨a, 0, none⟩), .nilIface] wd fun e w' => e = .returned (saidV true (j : Int) p) ∧ Below wd.heap.size wd w') := Lib.hid (fun wd s' R' m' hp' hpr' hf' => by
    obtain ⟨hsd, -, -⟩ := hs_dec HSq.out HJA.out hp' hpr' hf'
    refine (said_any hb (.pointer (some ⟨hq, 0, none⟩)) a s' A B n c (some ⟨g, 0, none⟩) Es wd hsd.hk hsd.ho hsd.hp.1 (fun x hx => hsd.hp.2.1 x ((hsd.de x).2 hx)) haA (by rw [hpr', upd_same]; exact HP.out) HUN.out (by omega)).mono ?_
    rintro e w' ⟨⟨fe, q', rfl, hfnd⟩, hbel⟩
    obtain ⟨rfl, rfl⟩ := hfnd.yes j hjn HJA.out
    rw [hpr', upd_same]
    exact ⟨rfl, hbel⟩)
  unfold saidV at HSDK
  clear hF1
  have HNE : Hid (w.heap.size + 1 ∉ hq :: A) := Lib.hid (fun hk => by
    rcases List.mem_cons.1 hk with e | hk
    · omega
    · have := HS.out.hp.1.lt _ hk; omega)
  go_cut [4] from 96 to 115 (fun s4 wx => s4 = .pointer (some ⟨w.heap.size + 1, 0, none⟩) ∧ ∃ wd wG s' R' m', Hp wd hq s' A D R' m' ∧ s'.pr = upd s.pr a p ∧ Fr (hq :: A) (hq :: A) wq wd ∧ Below wd.heap.size wd wG ∧ wx = resW wG (w.heap.size + 1) (.bool true) (.int .i64 (j : Int)) (.int .i64 p) (.int .i64 0) (.bool false))
  case first =>
    go_region_law (first | (go_simp; go_at_call 24; refine Calls.mono (HEN.out _ HSq.out.hp) ?_; rintro e w3 ⟨rfl, s3, R3, m3, hp3, hpr3, hf3⟩; have HP3 := Lib.hid hp3; have HPR3 := Lib.hid hpr3; have HF3 : Hid (Fr (hq :: A) (hq :: A) wq w3) := Lib.hid ⟨hf3.os, hf3.tape, hf3.output, hf3.size, hf3.block, hf3.next⟩; clear hp3 hpr3 hf3) | (go_simp; go_at_call 20; refine Calls.mono (HSDK.out _ _ _ _ HP3.out HPR3.out HF3.out) ?_; rintro e wG ⟨rfl, hbG⟩; have HBG := Lib.hid hbG; have hrG := blk_next (HF3.out.blk HRq.out HNE.out) hbG; have r0 := hrG.cell 0 rfl; have r1 := hrG.cell 1 rfl; have r2 := hrG.cell 2 rfl; have r3 := hrG.cell 3 rfl; have r4 := hrG.cell 4 rfl; have g0 := hrG.free 0; have g1 := hrG.free 1; have g2 := hrG.free 2; have g3 := hrG.free 3; have g4 := hrG.free 4; clear hbG hrG) | fail)
    all_goals (try go_wp2_with fail)
    all_goals
      go_meet
      exact ⟨rfl, w3, wG, s3, R3, m3, HP3.out, HPR3.out, HF3.out, HBG.out, rfl⟩
  case rest =>
    obtain ⟨rfl, wd, wG, s', R', m', hp', hpr', hf', hbG, rfl⟩ := hcut
    obtain ⟨hsd, hLd, hfd⟩ := hs_dec HSq.out HJA.out hp' hpr' hf'
    have hrG := blk_next (hf'.blk HRq.out HNE.out) hbG
    have hfr : Fr (hb :: hq :: A ++ obl (.slice (some ⟨g, 0, none⟩) n c)) (hb :: hq :: A ++ obl (.slice (some ⟨g, 0, none⟩) n c)) w wG := ((Fr.of_below _ HBq.out).trans hfd).trans (Fr.of_below _ hbG)
    obtain ⟨hsF, hfF⟩ := hs_res (hsd.below hbG) hrG (.bool true) (.int .i64 (j : Int)) (.int .i64 p) (.int .i64 0) (.bool false) hfr (Nat.le_succ _)
    have hrF : Blk (resW wG (w.heap.size + 1) (.bool true) (.int .i64 (j : Int)) (.int .i64 p) (.int .i64 0) (.bool false)) (w.heap.size + 1) 37 #[.bool true, .int .i64 (j : Int), .int .i64 p, .int .i64 0, .bool false] :=
      ((((hrG.set 0 (.bool true)).set 1 (.int .i64 (j : Int))).set 2 (.int .i64 p)).set 3 (.int .i64 0)).set 4 (.bool false)
    obtain ⟨wE, hwE⟩ : ∃ wE, wE = resW wG (w.heap.size + 1) (.bool true) (.int .i64 (j : Int)) (.int .i64 p) (.int .i64 0) (.bool false) := ⟨_, rfl⟩
    rw [← hwE] at hsF hfF hrF ⊢
    have HSF := Lib.hid hsF
    have HFF := Lib.hid hfF
    have HLD := Lib.hid hLd
    have r0 := hrF.cell 0 rfl
    have r1 := hrF.cell 1 rfl
    have r2 := hrF.cell 2 rfl
    have r3 := hrF.cell 3 rfl
    have r4 := hrF.cell 4 rfl
    clear hp' hpr' hf' hbG hsd hLd hfd hrG hfr hsF hfF hrF hwE e0 e1 e2 e3 e4 hfl hszq hltq
    go_wp2_with fail
    refine bodyPost_ret (v := saidV true (j : Int) p) (by simp [results, Try.results14, go_sem, saidV, *]) rfl ?_
    exact ⟨rfl, _, ⟨hq, s', A, D, R', m', _, _, _, _, HSF.out, rfl, HLD.out.symm⟩, HFF.out⟩
end Go.Proofs.Ytmhackiiiehlmaa
