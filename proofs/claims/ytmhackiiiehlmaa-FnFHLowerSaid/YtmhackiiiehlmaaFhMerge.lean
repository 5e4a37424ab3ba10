/- fibheap.mergeLists: two rings are made one. -/
import Derived.Test.YtmhackiiiehlmaaRows
import Derived.Test.YtmhackiiiehlmaaFhMem
import Derived.WalkSpells
import Derived.WalkLawsBesides
import Derived.BigQuiet
import Derived.Deep.CutRange
import Derived.Deep.DeepCutAuto
import Derived.Deep.CutBlock
import Derived.Deep.LoopGhost
import Derived.Deep.RegionLaw
import Derived.Deep.QuietTactic
namespace Go.Proofs.Ytmhackiiiehlmaa
set_option linter.unusedVariables false
open Go.RowKit Fh

theorem below_drew2 (w : World) (n : Nat) : Below w.heap.size w (w.drewN n) := ⟨rfl, rfl, rfl, Nat.le_refl _, fun _ _ => rfl⟩

set_option maxRecDepth 100000 in
theorem mergenil_any (o : Option Nat) (w : World) : Calls Try.prog 39 #[pt o, .pointer none] w fun e w' => e = .returned (pt o) ∧ w' = w := by
  cases o with
  | none =>
    go_enter Try.func39, Try.ntmps39
    go_wp2_with fail
    go_ret
    exact ⟨rfl, rfl⟩
  | some a =>
    go_enter Try.func39, Try.ntmps39
    go_wp2_with fail
    go_ret
    exact ⟨rfl, rfl⟩
set_option maxRecDepth 100000 in
theorem mergefirst_any (b : Nat) (w : World) : Calls Try.prog 39 #[.pointer none, .pointer (some ⟨b, 0, none⟩)] w fun e w' => e = .returned (.pointer (some ⟨b, 0, none⟩)) ∧ w' = w := by
  go_enter Try.func39, Try.ntmps39
  go_wp2_with fail
  go_ret
  exact ⟨rfl, rfl⟩
set_option maxRecDepth 100000 in
set_option maxHeartbeats 2000000 in
theorem mergelists_any (s : St) (D : List Nat) (a b : Nat) (w : World) (hH : HpAt w s D) (ha : a ∈ D) (hb : b ∈ D) (hab : a ≠ b) (hc : s.nx a ∈ D) (hd : s.nx b ∈ D) (hcd : s.nx a ≠ s.nx b) (hp : Sm (s.pr a)) (hq : Sm (s.pr b)) :
    Calls Try.prog 39 #[.pointer (some ⟨a, 0, none⟩), .pointer (some ⟨b, 0, none⟩)] w fun e w' => e = .returned (.pointer (some ⟨lesser s a b, 0, none⟩)) ∧ HpAt w' (merge s a b) D ∧ Fr D D w w' := by
  have a2 := hH.c2 ha
  have b2 := hH.c2 hb
  have c3 := hH.c3 hc
  have d3 := hH.c3 hd
  have a6 := hH.c6 ha
  have b6 := hH.c6 hb
  have fa := (hH a ha).free 2
  have fb := (hH b hb).free 2
  have fc := (hH _ hc).free 3
  have fd := (hH _ hd).free 3
  have hlt := fl_lt hp hq
  have HL : Hid (lesser s a b = if s.pr a < s.pr b then a else b) := Lib.hid rfl
  have HH := Lib.hid (((hH.sN ha (s.nx b)).sP hd a).sN hb (s.nx a) |>.sP hc b)
  have HF : Hid (Fr D D w ((((w.setCell ⟨a, 2, none⟩ (.pointer (some ⟨s.nx b, 0, none⟩))).setCell ⟨s.nx b, 3, none⟩ (.pointer (some ⟨a, 0, none⟩))).setCell ⟨b, 2, none⟩ (.pointer (some ⟨s.nx a, 0, none⟩))).setCell ⟨s.nx a, 3, none⟩ (.pointer (some ⟨b, 0, none⟩)))) :=
    Lib.hid ((((Fr.store w (F := D) (a := ⟨a, 2, none⟩) ha _).trans (Fr.store _ (F := D) (a := ⟨s.nx b, 3, none⟩) hd _)).trans (Fr.store _ (F := D) (a := ⟨b, 2, none⟩) hb _)).trans (Fr.store _ (F := D) (a := ⟨s.nx a, 3, none⟩) hc _))
  have hba : ¬ b = a := fun e => hab e.symm
  obtain ⟨c, hcc⟩ : ∃ c, s.nx a = c := ⟨_, rfl⟩
  obtain ⟨d, hdd⟩ : ∃ d, s.nx b = d := ⟨_, rfl⟩
  obtain ⟨F1, hF1⟩ : ∃ F1, fl (s.pr a) = F1 := ⟨_, rfl⟩
  obtain ⟨F2, hF2⟩ : ∃ F2, fl (s.pr b) = F2 := ⟨_, rfl⟩
  have hdc : ¬ s.nx b = s.nx a := fun e => hcd e.symm
  rw [hcc] at a2 c3 fc HH HF hcd hdc
  rw [hdd] at b2 d3 fd HH HF hcd hdc
  rw [hF1] at a6 hlt
  rw [hF2] at b6 hlt
  have HE : Hid (setP (setN (setP (setN s a d) d a) b c) c b = merge s a b) := Lib.hid (by rw [← hcc, ← hdd]; rfl)
  have HA := Lib.hid ha
  have HB := Lib.hid hb
  have HF1 := Lib.hid hF1
  have HF2 := Lib.hid hF2
  clear hH ha hb hc hd hp hq hcc hdd hF1 hF2
  rw [HE.out] at HH
  obtain ⟨wE, hwE⟩ : ∃ wE, wE = ((((w.setCell ⟨a, 2, none⟩ (.pointer (some ⟨d, 0, none⟩))).setCell ⟨d, 3, none⟩ (.pointer (some ⟨a, 0, none⟩))).setCell ⟨b, 2, none⟩ (.pointer (some ⟨c, 0, none⟩))).setCell ⟨c, 3, none⟩ (.pointer (some ⟨b, 0, none⟩))) := ⟨_, rfl⟩
  rw [← hwE] at HH HF
  have A6 : wE.cell? ⟨a, 6, none⟩ = some (.float .f64 F1) := by have := HH.out.c6 HA.out; rw [← HF1.out]; exact this
  have B6 : wE.cell? ⟨b, 6, none⟩ = some (.float .f64 F2) := by have := HH.out.c6 HB.out; rw [← HF2.out]; exact this
  have HWE := Lib.hid hwE
  have HA6 := Lib.hid A6
  have HB6 := Lib.hid B6
  have HLT := Lib.hid hlt
  clear hwE A6 B6 a6 b6 hlt
  go_enter Try.func39, Try.ntmps39
  go_upto_region 12 with fail
  rw [← HWE.out]
  have A6 := HA6.out
  have B6 := HB6.out
  clear a2 b2 c3 d3 fa fb fc fd HWE HA6 HB6
  by_cases hpq : s.pr a < s.pr b
  · have hL : lesser s a b = a := by rw [HL.out, if_pos hpq]
    have hlt2 : (FloatKind.f64.format.order F1 F2 == some .lt) = true := by rw [HLT.out]; simpa using hpq
    have HLL := Lib.hid hL
    clear hpq hL HL HLT
    go_quiet (fail)
    go_wp2_with fail
    go_ret
    exact ⟨by rw [HLL.out]; rfl, HH.out.below (below_drew2 _ _), HF.out.drewN _⟩
  · have hL : lesser s a b = b := by rw [HL.out, if_neg hpq]
    have hlt2 : (FloatKind.f64.format.order F1 F2 == some .lt) = false := by rw [HLT.out]; simpa using hpq
    have HLL := Lib.hid hL
    clear hpq hL HL HLT
    go_quiet (fail)
    go_wp2_with fail
    go_ret
    exact ⟨by rw [HLL.out]; rfl, HH.out.below (below_drew2 _ _), HF.out.drewN _⟩
end Go.Proofs.Ytmhackiiiehlmaa
