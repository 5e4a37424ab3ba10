/- fibheap: decreaseKeyUnchecked, DecreaseKey, Min. -/
import Derived.Test.YtmhackiiiehlmaaFhCut
import Derived.Test.YtmhackiiiehlmaaFhDeq
namespace Go.Proofs.Ytmhackiiiehlmaa
set_option linter.unusedVariables false
open Go.RowKit Fh

/-- what decreaseKeyUnchecked does -/
def DecPost (hq : Nat) (A D : List Nat) (s : St) (x : Nat) (p : Int) (w w' : World) : Prop :=
  ∃ (s' : St) (R' : List Nat) (m' : Nat), Hp w' hq s' A D R' (some m') ∧ s'.pr = upd s.pr x p ∧ Fr (hq :: A) (hq :: A) w w'
theorem dec_end {hq : Nat} {A D : List Nat} {s s2 : St} {x m2 N : Nat} {p : Int} {R2 : List Nat} {K2 : Nat → List Nat} {P2 : Nat → Option Nat} {w w2 : World} (hi : Fh.Inv s2 D R2 [] K2 P2) (ha : Agr s2 P2 D []) (ho : Ord s2 P2 D []) (hsub : ∀ b ∈ D, b ∈ A) (hnd : D.Nodup) (hsm : ∀ b ∈ D, Sm (s2.pr b))
    (hpr : s2.pr = upd s.pr x p) (hl : m2 ∈ R2) (hl2 : ∀ z ∈ R2, z ≠ x → s2.pr m2 ≤ s2.pr z) (hx : s2.pr x ≤ s2.pr m2 → x ∈ R2) (hN : D.length = N) (hc : Cw hq A N m2 w s2 w2) :
    (s2.pr x ≤ s2.pr m2 → DecPost hq A D s x p w (w2.setCell ⟨hq, 0, none⟩ (.pointer (some ⟨x, 0, none⟩)))) ∧ (¬ s2.pr x ≤ s2.pr m2 → DecPost hq A D s x p w w2) := by
  refine ⟨fun hle => ?_, fun hle => ?_⟩
  · have h := hc.sH x
    refine ⟨s2, R2, x, ⟨h.hat, hsub, ⟨⟨K2, P2, hi, ha, ho⟩, hnd, hsm⟩, ⟨hx hle, fun z hz => ?_⟩, by rw [hN]; exact h.hk⟩, hpr, h.fr⟩
    by_cases hzx : z = x
    · rw [hzx]; exact Int.le_refl _
    · have := hl2 z hz hzx; omega
  · refine ⟨s2, R2, m2, ⟨hc.hat, hsub, ⟨⟨K2, P2, hi, ha, ho⟩, hnd, hsm⟩, ⟨hl, fun z hz => ?_⟩, by rw [hN]; exact hc.hk⟩, hpr, hc.fr⟩
    by_cases hzx : z = x
    · rw [hzx]; omega
    · exact hl2 z hz hzx
theorem inv_pr {s : St} {D R Q : List Nat} {K : Nat → List Nat} {P : Nat → Option Nat} (h : Fh.Inv s D R Q K P) (x : Nat) (v : Int) : Fh.Inv (setK s x v) D R Q K P := ⟨h.rn, h.qn, h.kn, h.ch, h.dg, h.mR, h.mK, h.dm, h.rd, h.kd, h.rk⟩
/-- before the last comparison -/
def DecMid (hq : Nat) (A D : List Nat) (N : Nat) (s : St) (x : Nat) (p : Int) (w w2 : World) : Prop :=
  ∃ (s2 : St) (m2 : Nat) (R2 : List Nat) (K2 : Nat → List Nat) (P2 : Nat → Option Nat), Fh.Inv s2 D R2 [] K2 P2 ∧ Agr s2 P2 D [] ∧ Ord s2 P2 D [] ∧ s2.pr = upd s.pr x p ∧ m2 ∈ R2 ∧ (∀ z ∈ R2, z ≠ x → s2.pr m2 ≤ s2.pr z) ∧ (s2.pr x ≤ s2.pr m2 → x ∈ R2) ∧ Cw hq A N m2 w s2 w2

set_option maxRecDepth 100000 in
set_option maxHeartbeats 4000000 in
theorem decunchecked_any (hq : Nat) (s : St) (A D R : List Nat) (m x : Nat) (p : Int) (w : World) (hh : Hp w hq s A D R (some m)) (hn : D.length ≤ 1000) (hx : x ∈ D) (hp : Sm p) (hpx : p < s.pr x) :
    Calls Try.prog 41 #[.pointer (some ⟨hq, 0, none⟩), .pointer (some ⟨x, 0, none⟩), .float .f64 (fl p)] w fun e w' => e = .returned (.tuple #[]) ∧ DecPost hq A D s x p w w' := by
  obtain ⟨hat, hsub, ⟨⟨K, P, hi, ha, ho⟩, hnd, hsm⟩, hle, hk⟩ := hh
  have hhA := hp_ne hat hk (by decide)
  have hxA := hsub x hx
  obtain ⟨N, hN⟩ : ∃ N, D.length = N := ⟨_, rfl⟩
  rw [hN] at hk
  have hcw : Cw hq A N m w s w := ⟨hat, hk, Fr.refl _ _, hhA⟩
  have hcw0 : Cw hq A N m w (setK s x p) (w.setCell ⟨x, 6, none⟩ (.float .f64 (fl p))) := hcw.store hxA (hat.sK hxA p)
  have x6 := hat.c6 hxA
  have fx6 := (hat x hxA).free 6
  have hst : ∀ (w : World) (a : Addr) (x : Nat), (store a (.float .f64 x)).run Try.prog w = stored Try.prog w a (.float .f64 x) .plain := fun w a x => run_store _ w a _ _ rfl
  have hsm1 : Hid (∀ b ∈ D, Sm ((setK s x p).pr b)) := Lib.hid (fun b hb => by
    show Sm (upd s.pr x p b)
    by_cases hbx : b = x
    · rw [hbx, upd_same]; exact hp
    · rw [upd_ne _ _ hbx]; exact hsm b hb)
  have hprx : (setK s x p).pr x = p := upd_same _ _ _
  have hpa := ha x hx (by simp)
  have hm := least_mem hi hle
  have HM := Lib.hid hm
  have HSUB := Lib.hid hsub
  have HI := Lib.hid hi
  have HA := Lib.hid ha
  have HO := Lib.hid ho
  have HND := Lib.hid hnd
  have HSM := Lib.hid hsm
  have HLE := Lib.hid hle
  have HP := Lib.hid hp
  have HX := Lib.hid hx
  have HXA := Lib.hid hxA
  have HHA := Lib.hid hhA
  have HNN := Lib.hid hN
  have HC0 := Lib.hid hcw0
  have HPX := Lib.hid hpx
  have HLN := Lib.hid hn
  have HPRX := Lib.hid hprx
  have HPA := Lib.hid hpa
  obtain ⟨F, hF⟩ : ∃ F, fl p = F := ⟨_, rfl⟩
  rw [hF] at HC0 hcw0 ⊢
  have HF := Lib.hid hF
  clear hat hsub hi ha ho hnd hsm hle hk hhA hcw hp hx hN hpx hn hprx hpa hF hm hcw0
  go_enter Try.func41, Try.ntmps41
  go_upto_region 1 with fail
  obtain ⟨wa, hwa⟩ : ∃ wa, wa = w.setCell ⟨x, 6, none⟩ (.float .f64 F) := ⟨_, rfl⟩
  rw [← hwa] at HC0 ⊢
  clear hwa x6 fx6
  have x6 := HC0.out.hat.c6 hxA
  rw [HPRX.out, HF.out] at x6
  have x5 := HC0.out.hat.c5 hxA
  rw [show (setK s x p).pa x = s.pa x from rfl, HPA.out] at x5
  go_cut [28] from 10 to 28 (fun s28 wx => ∃ b : Bool, s28 = .bool b ∧ Cw hq A N m w (setK s x p) wx ∧ (b = true → ∃ t, P x = some t) ∧ (b = false → ∀ t, P x = some t → s.pr t < p))
  case first =>
    cases hpx : P x with
    | none =>
      rw [hpx] at x5
      have x5' : wa.cell? ⟨x, 5, none⟩ = some (.pointer none) := x5
      have HPN := Lib.hid hpx
      clear x5 hpx
      go_quiet (fail)
      go_wp2_with fail
      go_meet
      exact ⟨false, rfl, HC0.out.drewN _, (fun e => by cases e), fun _ t e => by rw [HPN.out] at e; cases e⟩
    | some t =>
      rw [hpx] at x5
      have x5' : wa.cell? ⟨x, 5, none⟩ = some (.pointer (some ⟨t, 0, none⟩)) := x5
      have htD := HI.out.dm x HX.out t hpx
      have htA := HSUB.out t htD
      have htx : t ≠ x := fun e => by
        obtain ⟨r, hr⟩ := HI.out.rk
        have := hr x HX.out t hpx
        rw [e] at this
        omega
      have t6 := HC0.out.hat.c6 htA
      rw [show (setK s x p).pr t = s.pr t from upd_ne _ _ htx] at t6
      have hlt := fl_lt HP.out (HSM.out t htD)
      have heq := fl_eq HP.out (HSM.out t htD)
      rw [HF.out] at hlt heq
      obtain ⟨F2, hF2⟩ : ∃ F2, fl (s.pr t) = F2 := ⟨_, rfl⟩
      rw [hF2] at t6 hlt heq
      have HPN := Lib.hid hpx
      clear x5 hpx hF2 htD htA htx
      by_cases hc : p ≤ s.pr t
      · have hleq : (FloatKind.f64.format.order F F2 == some .lt || FloatKind.f64.format.order F F2 == some .eq) = true := by
          rw [hlt, heq, Bool.or_eq_true, decide_eq_true_eq, decide_eq_true_eq]; omega
        clear hlt heq hc
        go_quiet (fail)
        go_wp2_with fail
        go_meet
        exact ⟨true, rfl, HC0.out.drewN _, fun _ => ⟨t, HPN.out⟩, fun e => by cases e⟩
      · have hleq : (FloatKind.f64.format.order F F2 == some .lt || FloatKind.f64.format.order F F2 == some .eq) = false := by
          rw [hlt, heq, Bool.or_eq_false_iff, decide_eq_false_iff_not, decide_eq_false_iff_not]; omega
        have HC := Lib.hid hc
        clear hlt heq hc
        go_quiet (fail)
        go_wp2_with fail
        go_meet
        exact ⟨false, rfl, HC0.out.drewN _, (fun e => by cases e), fun _ t' e => by rw [HPN.out] at e; injection e with e; subst e; have := HC.out; omega⟩
  case rest =>
    obtain ⟨b, rfl, hcw1, hb1, hb2⟩ := hcut
    obtain ⟨wb, rfl⟩ : ∃ y, y = wc := ⟨_, rfl⟩
    have HC1 := Lib.hid hcw1
    clear x5 x6 hcw1
    have hORD : Hid (∀ P2 : Nat → Option Nat, (∀ y b, P2 y = some b → P y = some b) → (∀ t, P2 x = some t → s.pr t < p) → ∀ s2 : St, s2.pr = upd s.pr x p → Ord s2 P2 D []) := Lib.hid (fun P2 h1 h2 s2 e y hy hn c hc => by
      rw [e]
      have hq := h1 y c hc
      have ho := HO.out y hy (by simp) c hq
      have hne : c ≠ y := fun e2 => by
        obtain ⟨r, hr⟩ := HI.out.rk
        have := hr y hy c hq
        rw [e2] at this
        omega
      by_cases hyx : y = x
      · rw [hyx, upd_same, upd_ne _ _ (by rw [← hyx]; exact hne)]
        have := h2 c (by rw [← hyx]; exact hc)
        omega
      · rw [upd_ne _ _ hyx]
        by_cases hcx : c = x
        · rw [hcx, upd_same]
          rw [hcx] at ho
          have := HPX.out
          omega
        · rw [upd_ne _ _ hcx]; exact ho)
    go_upto_if 28 with fail
    go_cut [1] from 28 to 31 (fun s1 wx => s1 = .pointer (some ⟨x, 0, none⟩) ∧ DecMid hq A D N s x p w wx)
    case first =>
      cases b with
      | true =>
        obtain ⟨t, ht⟩ := hb1 rfl
        obtain ⟨r, hr⟩ := HI.out.rk
        obtain ⟨M, hM⟩ := rk_bound r D
        have hmx : m ≠ x := fun e => by rw [← e, HM.out.2] at ht; cases ht
        have hxR : x ∉ R := fun e => by
          have := ((HI.out.mR x).1 (by rw [List.append_nil]; exact e)).2
          rw [this] at ht; cases ht
        have HPRE : CutPre r hq A D N (setK s x p) R K P [] x m wb := ⟨HC1.out.hat, HSUB.out, inv_pr HI.out x p, HA.out, hr, (fun e he => by cases he), HX.out, ⟨HLE.out.1, fun z hz => by
          show upd s.pr x p m ≤ upd s.pr x p z
          rw [upd_ne _ _ hmx, upd_ne _ _ (ne_mem hz hxR)]
          exact HLE.out.2 z hz⟩, hsm1.out, HLN.out, HND.out, HC1.out.hk, HHA.out⟩
        have HCUT := Lib.hid (cutnode_any r hq A D N M hM (M - r x + 1) (setK s x p) R K P [] x m wb (Nat.lt_succ_self _) HPRE)
        clear HPRE hr hM hmx hxR ht hb1 hb2
        go_wp2_with fail
        refine HCUT.out.mono ?_
        rintro e wm ⟨s4, R4, K4, P4, m4, rfl, hat4, hi4, ha4, hs4, hp4, hpr4, hl4, hk4, hf4⟩
        have hmid : Hid (DecMid hq A D N s x p w wm) := Lib.hid ⟨s4, m4, R4, K4, P4, hi4, ha4, hORD.out P4 hs4 (fun t e => by rw [hp4] at e; cases e) s4 hpr4, hpr4, hl4.1, fun z hz _ => hl4.2 z hz, fun _ => by
          have := (hi4.mR x).2 ⟨HX.out, hp4⟩
          rwa [List.append_nil] at this, hat4, hk4, HC1.out.fr.trans hf4, HHA.out⟩
        clear hat4 hi4 ha4 hs4 hp4 hpr4 hl4 hk4 hf4
        go_wp2_with fail
        go_meet
        exact ⟨rfl, hmid.out⟩
      | false =>
        have hmid : Hid (DecMid hq A D N s x p w wb) := Lib.hid ⟨setK s x p, m, R, K, P, inv_pr HI.out x p, HA.out, hORD.out P (fun y b e => e) (hb2 rfl) _ rfl, rfl, HLE.out.1, fun z hz hzx => by
            show upd s.pr x p m ≤ upd s.pr x p z
            rw [upd_ne _ _ hzx]
            by_cases hmx : m = x
            · rw [hmx, upd_same]
              have := HLE.out.2 z hz
              rw [hmx] at this
              have := HPX.out
              omega
            · rw [upd_ne _ _ hmx]; exact HLE.out.2 z hz, fun hle => by
            cases hpx : P x with
            | none =>
              have := (HI.out.mR x).2 ⟨HX.out, hpx⟩
              rwa [List.append_nil] at this
            | some t =>
              exfalso
              have h1 := hb2 rfl t hpx
              have h2 := HI.out.least (fun y hy b hb => HO.out y hy (by simp) b hb) (v := s.pr m) (fun z hz => HLE.out.2 z (by rwa [List.append_nil] at hz)) t (HI.out.dm x HX.out t hpx)
              have hmx : m ≠ x := fun e => by rw [← e, HM.out.2] at hpx; cases hpx
              have h3 : upd s.pr x p x ≤ upd s.pr x p m := hle
              rw [upd_same, upd_ne _ _ hmx] at h3
              omega, HC1.out⟩
        clear hb1 hb2
        go_wp2_with fail
        go_meet
        exact ⟨rfl, hmid.out⟩
    case rest =>
      obtain ⟨rfl, s2, m2, R2, K2, P2, hi2, ha2, ho2, hpr2, hm2, hl2, hx2, hcw2⟩ := hcut
      clear hb1 hb2
      have hsm2 : ∀ b ∈ D, Sm (s2.pr b) := fun b hb => by rw [hpr2]; exact hsm1.out b hb
      obtain ⟨hE1, hE2⟩ := dec_end (s := s) (p := p) hi2 ha2 ho2 HSUB.out HND.out hsm2 hpr2 hm2 hl2 hx2 HNN.out hcw2
      have hp2 : s2.pr x = p := by rw [hpr2, upd_same]
      have hmD : m2 ∈ D := ((hi2.mR m2).1 (by rw [List.append_nil]; exact hm2)).1
      have x6 := hcw2.hat.c6 hxA
      have m6 := hcw2.hat.c6 (HSUB.out m2 hmD)
      have h0 := hcw2.hk.cell 0 rfl
      have hf0 := hcw2.hk.free 0
      rw [hp2] at hE1 hE2 x6
      rw [HF.out] at x6
      have hlt := fl_lt HP.out (hsm2 m2 hmD)
      have heq := fl_eq HP.out (hsm2 m2 hmD)
      rw [HF.out] at hlt heq
      obtain ⟨F2, hF2⟩ : ∃ F2, fl (s2.pr m2) = F2 := ⟨_, rfl⟩
      rw [hF2] at m6 hlt heq
      have HW : Hid (∀ n, DecPost hq A D s x p w wc → DecPost hq A D s x p w (wc.drewN n)) := Lib.hid (fun n ⟨s', R', m', q1, q2, q3⟩ => ⟨s', R', m', q1, q2, q3.drewN n⟩)
      have HW2 : Hid (∀ n v, DecPost hq A D s x p w (wc.setCell ⟨hq, 0, none⟩ v) → DecPost hq A D s x p w ((wc.drewN n).setCell ⟨hq, 0, none⟩ v)) := Lib.hid (fun n v ⟨s', R', m', q1, q2, q3⟩ => ⟨s', R', m', q1, q2, q3.drewN n⟩)
      clear hi2 ha2 ho2 hpr2 hm2 hl2 hx2 hcw2 hsm2 hp2 hmD hF2
      by_cases hc : p ≤ s2.pr m2
      · have hleq : (FloatKind.f64.format.order F F2 == some .lt || FloatKind.f64.format.order F F2 == some .eq) = true := by
          rw [hlt, heq, Bool.or_eq_true, decide_eq_true_eq, decide_eq_true_eq]; omega
        have HE := Lib.hid (hE1 hc)
        clear hlt heq hc hE1 hE2
        go_upto_region 3 with fail
        go_quiet (fail)
        go_wp2_with fail
        refine bodyPost_end (results_none rfl _ _ _) rfl ?_
        exact ⟨rfl, HW2.out _ _ HE.out⟩
      · have hleq : (FloatKind.f64.format.order F F2 == some .lt || FloatKind.f64.format.order F F2 == some .eq) = false := by
          rw [hlt, heq, Bool.or_eq_false_iff, decide_eq_false_iff_not, decide_eq_false_iff_not]; omega
        have HE := Lib.hid (hE2 hc)
        clear hlt heq hc hE1 hE2
        go_upto_region 3 with fail
        go_quiet (fail)
        go_wp2_with fail
        refine bodyPost_end (results_none rfl _ _ _) rfl ?_
        exact ⟨rfl, HW.out _ HE.out⟩
set_option maxRecDepth 100000 in
theorem deckey_any (hq : Nat) (s : St) (A D R : List Nat) (m x : Nat) (p : Int) (w : World) (hh : Hp w hq s A D R (some m)) (hn : D.length ≤ 1000) (hx : x ∈ D) (hp : Sm p) (hpx : p < s.pr x) :
    Calls Try.prog 24 #[.pointer (some ⟨hq, 0, none⟩), .pointer (some ⟨x, 0, none⟩), .float .f64 (fl p)] w fun e w' => e = .returned (.tuple #[.pointer (some ⟨x, 0, none⟩), .nilIface]) ∧ DecPost hq A D s x p w w' := by
  have HDU := Lib.hid (decunchecked_any hq s A D R m x p w hh hn hx hp hpx)
  obtain ⟨hat, hsub, ⟨⟨K, P, hi, ha, ho⟩, hnd, hsm⟩, hle, hk⟩ := hh
  have hxA := hsub x hx
  obtain ⟨N, hN⟩ : ∃ N, D.length = N + 1 := ⟨D.length - 1, by have := List.length_pos_of_mem hx; omega⟩
  rw [hN] at hk
  have hpos : decide (N + 1 = 0) = false := by simp
  have HIE := Lib.hid (isempty_any hq _ (N + 1) w hk)
  rw [hpos] at HIE
  have x6 := hat.c6 hxA
  have hlt := fl_gt hp (hsm x hx)
  have heq := fl_eq hp (hsm x hx)
  obtain ⟨F, hF⟩ : ∃ F, fl p = F := ⟨_, rfl⟩
  obtain ⟨F2, hF2⟩ : ∃ F2, fl (s.pr x) = F2 := ⟨_, rfl⟩
  rw [hF] at hlt heq HDU ⊢
  rw [hF2] at x6 hlt heq
  have hgeq : (FloatKind.f64.format.order F F2 == some .gt || FloatKind.f64.format.order F F2 == some .eq) = false := by
    rw [hlt, heq, Bool.or_eq_false_iff, decide_eq_false_iff_not, decide_eq_false_iff_not]; omega
  clear hat hsub hi ha ho hnd hsm hle hk hlt heq hxA hx hp hpx hN hF hF2 hpos hn
  go_enter Try.func24, Try.ntmps24
  go_wp2_with fail
  refine HIE.out.mono ?_
  rintro e w1 ⟨rfl, rfl⟩
  go_wp2_with fail
  refine HDU.out.mono ?_
  rintro e w2 ⟨rfl, hd⟩
  go_wp2_with fail
  go_ret2
  exact ⟨rfl, hd⟩
set_option maxRecDepth 100000 in
theorem min_any (hq : Nat) (x : Value) (w : World) (hk : Blk w hq 44 #[x, .int .u64 ((0 : Nat) : Int)]) :
    Calls Try.prog 21 #[.pointer (some ⟨hq, 0, none⟩)] w fun e w' => (∃ T v, e = .returned (.tuple #[.pointer none, .iface T v])) ∧ w' = w := by
  have HIE := Lib.hid (isempty_any hq x 0 w hk)
  rw [show decide (0 = 0) = true from rfl] at HIE
  clear hk
  go_enter Try.func21, Try.ntmps21
  go_wp2_with fail
  refine HIE.out.mono ?_
  rintro e w1 ⟨rfl, rfl⟩
  go_wp2_with fail
  go_ret2
  exact ⟨⟨_, _, rfl⟩, rfl⟩
end Go.Proofs.Ytmhackiiiehlmaa
