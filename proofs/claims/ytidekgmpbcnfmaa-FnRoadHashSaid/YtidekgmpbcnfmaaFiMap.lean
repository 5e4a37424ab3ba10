/- Walks of (*FastIntegerHashMap).Set, Get, Exists, Delete, Len, Cap, and New. -/
import Derived.Test.YtidekgmpbcnfmaaFiReb
import Derived.BigQuiet
import Derived.Deep.QuietTactic
namespace Go.Proofs.Ytidekgmpbcnfmaa
set_option linter.unusedVariables false
open Go.RowKit

def Kv (T : Fi.Tb) (k v : Int) : Prop := ∃ b, Fi.Has T (b, k, v)
theorem put_kv {m : Nat} {h : Int → Nat} {N : Fi.Tb} {i b : Nat} {key val : Int} (ok : Fi.Ok m h N) (hf : Fi.Found m h N key i) {T' : Fi.Tb}
    (hor : (N[i]? = some none ∧ T' = N.set i (some (b, key, val))) ∨ ∃ b' v', N[i]? = some (some (b', key, v')) ∧ T' = N.set i (some (b', key, val))) :
    Fi.Ok m h T' ∧ Fi.occ T' ≤ Fi.occ N + 1 ∧ ∀ k v, Kv T' k v ↔ (k = key ∧ v = val) ∨ (k ≠ key ∧ Kv N k v) := by
  rcases hor with ⟨hn, rfl⟩ | ⟨b', v', hs, rfl⟩
  · have hil : i < N.length := (List.getElem?_eq_some_iff.1 hn).1
    refine ⟨Fi.set_new ok hf hn, by rw [Fi.occ_new hn]; exact Nat.le_refl _, fun k v => ?_⟩
    have hno := Fi.found_none ok hf hn
    constructor
    · rintro ⟨b1, hb1⟩
      rcases (Fi.has_set hil hn _).1 hb1 with h1 | h1
      · refine .inr ⟨?_, b1, h1⟩
        rintro rfl
        exact hno _ _ h1
      · simp only [Prod.mk.injEq] at h1
        exact .inl h1.2
    · rintro (⟨rfl, rfl⟩ | ⟨_, b1, hb1⟩)
      · exact ⟨b, (Fi.has_set hil hn _).2 (.inr rfl)⟩
      · exact ⟨b1, (Fi.has_set hil hn _).2 (.inl hb1)⟩
  · have hil : i < N.length := (List.getElem?_eq_some_iff.1 hs).1
    refine ⟨Fi.set_upd ok hs, by rw [Fi.occ_upd hs]; omega, fun k v => ?_⟩
    constructor
    · rintro ⟨b1, a, ha⟩
      rw [Fi.set_at hil] at ha
      by_cases hia : i = a
      · rw [if_pos hia] at ha
        simp only [Option.some.injEq, Prod.mk.injEq] at ha
        exact .inl ⟨ha.2.1.symm, ha.2.2.symm⟩
      · rw [if_neg hia] at ha
        refine .inr ⟨?_, b1, a, ha⟩
        rintro rfl
        exact hia (ok.key _ _ _ _ _ _ _ hs ha)
    · rintro (⟨rfl, rfl⟩ | ⟨hne, b1, a, ha⟩)
      · exact ⟨b', i, by rw [Fi.set_at hil, if_pos rfl]⟩
      · refine ⟨b1, a, ?_⟩
        rw [Fi.set_at hil, if_neg]
        · exact ha
        · rintro rfl
          rw [hs] at ha
          simp only [Option.some.injEq, Prod.mk.injEq] at ha
          exact hne ha.2.1.symm

def SetM (F : Int → Nat) (Z s c : Nat) (T : Fi.Tb) (key val : Int) (w : World) (e : Ending) (w' : World) : Prop :=
  ∃ g m j T', e = .returned (.tuple #[]) ∧ MapAt w' F Z s g m j (c + 1) T' ∧ (∀ k v, Kv T' k v ↔ (k = key ∧ v = val) ∨ (k ≠ key ∧ Kv T k v)) ∧ KeepY s w w' ∧ Below Z w w'
theorem MapAt.drewN {w : World} {F : Int → Nat} {Z s g m j c : Nat} {T : Fi.Tb} (h : MapAt w F Z s g m j c T) (n : Nat) : MapAt (w.drewN n) F Z s g m j c T := ⟨h.blk, h.tab.drewN n, h.ok, h.hm, h.hj, h.occ, h.full, h.zs⟩
theorem fbelow_drewN (Z : Nat) (w : World) (n : Nat) : Below Z w (w.drewN n) := ⟨rfl, rfl, rfl, Nat.le_refl _, fun _ _ => rfl⟩

set_option maxRecDepth 100000 in
set_option maxHeartbeats 4000000 in
theorem mset_room (F : Int → Nat) (hF : HomeIs F) (Z s g m j c : Nat) (T : Fi.Tb) (key val : Int) (w : World) (hM : MapAt w F Z s g m j c T) (hroom : 4 * (c + 1) ≤ 3 * m) (hc : c ≤ 300) (hZ : Z ≤ w.heap.size) (r : Nat)
    (hd : FloatKind.f64.format.div (floatOfInt .f64 ((c : Int) + 1)) (floatOfInt .f64 (m : Int)) = some r) (hr : (FloatKind.f64.format.order r 4604930618986332160 == some .gt) = false) :
    Calls Try.prog 19 #[.pointer (some ⟨s, 0, none⟩), .int .u64 key, .int .u64 val] w (SetM F Z s c T key val w) := by
  have c0 : w.cell? ⟨s, 0, none⟩ = some (.int .u64 (c : Int)) := hM.blk.cell 0 rfl
  have c1 : w.cell? ⟨s, 1, none⟩ = some (.slice (some ⟨g, 0, none⟩) m m) := hM.blk.cell 1 rfl
  have hq := fun w => run_float_arith (P := Try.prog) w .quo 83 .f64 _ _ r hd
  have hci : (c : Int) ≤ 300 := by omega
  have hc1 : (0 : Int) ≤ (c : Int) + 1 := by omega
  have hwr : IntKind.u64.wrap ((c : Int) + 1) = (c : Int) + 1 := by simp [IntKind.wrap, IntKind.bits, IntKind.signed]; omega
  have hsl := hM.blk.lt
  have HM := Lib.hid hM
  have HROOM := Lib.hid hroom
  clear hM hd hroom
  go_enter Try.func19, Try.ntmps19
  go_wp2_with fail
  go_quiet (fail)
  obtain ⟨W, hW⟩ : ∃ W, W = w.drewN nq := ⟨_, rfl⟩
  have HN : Hid (MapAt W F Z s g m j c T) := Lib.hid (by rw [hW]; exact HM.out.drewN nq)
  have HKY : Hid (KeepY s w W ∧ Below Z w W) := Lib.hid (by rw [hW]; exact ⟨⟨Nat.le_refl _, fun _ _ _ _ _ _ _ h => h⟩, fbelow_drewN Z w nq⟩)
  have HKV : Hid (∀ k v, Kv T k v ↔ Kv T k v) := Lib.hid fun _ _ => Iff.rfl
  rw [← hW]
  clear hW hq hwr c0 c1 hsl hr
  have d1 : W.cell? ⟨s, 1, none⟩ = some (.slice (some ⟨g, 0, none⟩) m m) := HN.out.blk.cell 1 rfl
  have hslW := HN.out.blk.lt
  have hnb := HN.out.below ((Below.refl _ _).alloc (Nat.le_refl _) (.cells #[.int .u64 key, .int .u64 val] 87))
  have hZW : Z ≤ W.heap.size := Nat.le_trans hZ HKY.out.2.size
  have HCS := Lib.hid (fset_any F hF Z g m j W.heap.size T key val (W.alloc (.cells #[.int .u64 key, .int .u64 val] 87)) hnb.hm (by have := hnb.hj; omega) hnb.tab hnb.free (by simp; omega) hnb.ok.key (Blk.new W _ _) hZW)
  have HNB := Lib.hid hnb
  clear hnb
  go_wp2_with fail
  refine HCS.out.mono ?_
  rintro e w2 ⟨rfl, ⟨i, hf, hor⟩, hk2, hb2, _⟩
  have hput : ∃ T', Tabl w2 Z g m T' ∧ Fi.Ok m (home F m) T' ∧ Fi.occ T' ≤ Fi.occ T + 1 ∧ ∀ k v, Kv T' k v ↔ (k = key ∧ v = val) ∨ (k ≠ key ∧ Kv T k v) := by
    rcases hor with ⟨hn, ht⟩ | ⟨b', v', hs, ht⟩
    · obtain ⟨h1, h2, h3⟩ := put_kv HN.out.ok hf (.inl ⟨hn, rfl⟩)
      exact ⟨_, ht, h1, h2, h3⟩
    · obtain ⟨h1, h2, h3⟩ := put_kv (b := 0) HN.out.ok hf (.inr ⟨b', v', hs, rfl⟩)
      exact ⟨_, ht, h1, h2, h3⟩
  obtain ⟨T', p1, p2, p3, p4⟩ := hput
  have hsb : Blk w2 s 82 #[.int .u64 (c : Int), .slice (some ⟨g, 0, none⟩) m m] := hk2.2 _ _ _ _ (by decide) (by decide) HNB.out.blk
  have e0 : w2.cell? ⟨s, 0, none⟩ = some (.int .u64 (c : Int)) := hsb.cell 0 rfl
  have f0 := hsb.free 0
  have HSB := Lib.hid hsb
  have HP := Lib.hid (And.intro p1 (And.intro p2 (And.intro p3 p4)))
  have HK2 := Lib.hid (And.intro hk2 hb2)
  clear hf hor hk2 hb2 p1 p2 p3 p4 hsb
  go_wp2_with fail
  go_end0
  have hne : s ≠ g := HP.out.1.neRow HSB.out (by decide)
  refine ⟨g, m, j, T', rfl, ⟨?_, ⟨?_, fun e he => ⟨(HP.out.1.pk e he).1.other (fun e1 => ?_) _, (HP.out.1.pk e he).2⟩⟩, HP.out.2.1, HN.out.hm, HN.out.hj, by have := HP.out.2.2.1; have := HN.out.occ; omega, HROOM.out, HN.out.zs⟩, fun k v => ?_, ?_, ?_⟩
  · have := HSB.out.set 0 (.int .u64 (c + 1 : Int))
    simpa using this
  · exact HP.out.1.row.kept (row := some s) ⟨rfl, rfl, rfl, by simp, fun k _ hk => Below.heap_setCell w2 _ _ k (fun e => hk (by rw [e]))⟩ (.inr (by simp [Value.ownBlock]; exact fun e => hne e.symm))
  · have h1 := (HP.out.1.pk e he).1
    have h2 := HSB.out
    simp only at e1
    rw [e1] at h1
    unfold Blk at h1 h2
    rw [h1] at h2
    injection h2 with h2
    injection h2 with _ h2
    cases h2
  · first | exact HP.out.2.2.2 k v | (rw [HP.out.2.2.2, HKV.out])
  · exact ((HKY.out.1.trans (KeepY.of (KeepX.of_below ((Below.refl _ _).alloc (Nat.le_refl _) _)))).trans (KeepY.of HK2.out.1)).set _
  · exact ((HKY.out.2.alloc hZW _).trans HK2.out.2).setCell HN.out.zs _

set_option maxRecDepth 100000 in
set_option maxHeartbeats 4000000 in
theorem mset_full (F : Int → Nat) (hF : HomeIs F) (Z s g m j c : Nat) (T : Fi.Tb) (key val : Int) (w : World) (hM : MapAt w F Z s g m j c T) (hj : j ≤ 9) (hc : c ≤ 300) (hZ : Z ≤ w.heap.size) (r : Nat)
    (hd : FloatKind.f64.format.div (floatOfInt .f64 ((c : Int) + 1)) (floatOfInt .f64 (m : Int)) = some r) (hr : (FloatKind.f64.format.order r 4604930618986332160 == some .gt) = true) :
    Calls Try.prog 19 #[.pointer (some ⟨s, 0, none⟩), .int .u64 key, .int .u64 val] w (SetM F Z s c T key val w) := by
  have c0 : w.cell? ⟨s, 0, none⟩ = some (.int .u64 (c : Int)) := hM.blk.cell 0 rfl
  have c1 : w.cell? ⟨s, 1, none⟩ = some (.slice (some ⟨g, 0, none⟩) m m) := hM.blk.cell 1 rfl
  have hq := fun w => run_float_arith (P := Try.prog) w .quo 83 .f64 _ _ r hd
  have hci : (c : Int) ≤ 300 := by omega
  have hc1 : (0 : Int) ≤ (c : Int) + 1 := by omega
  have hwr : IntKind.u64.wrap ((c : Int) + 1) = (c : Int) + 1 := by simp [IntKind.wrap, IntKind.bits, IntKind.signed]; omega
  have hsl := hM.blk.lt
  have HM := Lib.hid hM
  clear hM hd
  go_enter Try.func19, Try.ntmps19
  go_wp2_with fail
  go_quiet (fail)
  obtain ⟨W0, hW0⟩ : ∃ W0, W0 = w.drewN nq := ⟨_, rfl⟩
  have HN0 : Hid (MapAt W0 F Z s g m j c T) := Lib.hid (by rw [hW0]; exact HM.out.drewN nq)
  have HKY0 : Hid (KeepY s w W0 ∧ Below Z w W0) := Lib.hid (by rw [hW0]; exact ⟨⟨Nat.le_refl _, fun _ _ _ _ _ _ _ h => h⟩, fbelow_drewN Z w nq⟩)
  rw [← hW0]
  clear hW0 hq hwr c0 c1 hsl hr
  have HRB := Lib.hid (rebuild_any F hF Z s g m j c T W0 HN0.out hj (Nat.le_trans hZ HKY0.out.2.size))
  go_wp2_with fail
  refine HRB.out.mono ?_
  rintro e W ⟨g2, N, rfl, hN, hocc, hhas, hky, hbl⟩
  have HN := Lib.hid hN
  obtain ⟨m2, hm2⟩ : ∃ m2, m2 = 2 ^ (j + 1) := ⟨_, rfl⟩
  have HROOM : Hid (4 * (c + 1) ≤ 3 * m2) := Lib.hid (by
    have h1 := HN0.out.full
    have h2 := HN0.out.pos
    have h3 := HN0.out.hm
    have h4 : 2 ^ (j + 1) = 2 * 2 ^ j := by rw [Nat.pow_succ]; omega
    omega)
  rw [← hm2] at HN
  obtain ⟨j2, hj2⟩ : ∃ j2, j2 = j + 1 := ⟨_, rfl⟩
  rw [← hj2] at HN
  have HKY := Lib.hid (And.intro (HKY0.out.1.trans hky) (HKY0.out.2.trans hbl))
  have HKV : Hid (∀ k v, Kv N k v ↔ Kv T k v) := Lib.hid fun k v => by
    unfold Kv
    constructor
    · rintro ⟨b, hb⟩; exact ⟨b, (hhas _).1 hb⟩
    · rintro ⟨b, hb⟩; exact ⟨b, (hhas _).2 hb⟩
  clear hN hocc hhas hky hbl hm2 hj2 HRB
  have d1 : W.cell? ⟨s, 1, none⟩ = some (.slice (some ⟨g2, 0, none⟩) m2 m2) := HN.out.blk.cell 1 rfl
  have hslW := HN.out.blk.lt
  have hnb := HN.out.below ((Below.refl _ _).alloc (Nat.le_refl _) (.cells #[.int .u64 key, .int .u64 val] 87))
  have hZW : Z ≤ W.heap.size := Nat.le_trans hZ HKY.out.2.size
  have HCS := Lib.hid (fset_any F hF Z g2 m2 j2 W.heap.size N key val (W.alloc (.cells #[.int .u64 key, .int .u64 val] 87)) hnb.hm (by have := hnb.hj; omega) hnb.tab hnb.free (by simp; omega) hnb.ok.key (Blk.new W _ _) hZW)
  have HNB := Lib.hid hnb
  clear hnb
  go_wp2_with fail
  refine HCS.out.mono ?_
  rintro e w2 ⟨rfl, ⟨i, hf, hor⟩, hk2, hb2, _⟩
  have hput : ∃ T', Tabl w2 Z g2 m2 T' ∧ Fi.Ok m2 (home F m2) T' ∧ Fi.occ T' ≤ Fi.occ N + 1 ∧ ∀ k v, Kv T' k v ↔ (k = key ∧ v = val) ∨ (k ≠ key ∧ Kv N k v) := by
    rcases hor with ⟨hn, ht⟩ | ⟨b', v', hs, ht⟩
    · obtain ⟨h1, h2, h3⟩ := put_kv HN.out.ok hf (.inl ⟨hn, rfl⟩)
      exact ⟨_, ht, h1, h2, h3⟩
    · obtain ⟨h1, h2, h3⟩ := put_kv (b := 0) HN.out.ok hf (.inr ⟨b', v', hs, rfl⟩)
      exact ⟨_, ht, h1, h2, h3⟩
  obtain ⟨T', p1, p2, p3, p4⟩ := hput
  have hsb : Blk w2 s 82 #[.int .u64 (c : Int), .slice (some ⟨g2, 0, none⟩) m2 m2] := hk2.2 _ _ _ _ (by decide) (by decide) HNB.out.blk
  have e0 : w2.cell? ⟨s, 0, none⟩ = some (.int .u64 (c : Int)) := hsb.cell 0 rfl
  have f0 := hsb.free 0
  have HSB := Lib.hid hsb
  have HP := Lib.hid (And.intro p1 (And.intro p2 (And.intro p3 p4)))
  have HK2 := Lib.hid (And.intro hk2 hb2)
  clear hf hor hk2 hb2 p1 p2 p3 p4 hsb
  go_wp2_with fail
  go_end0
  have hne : s ≠ g2 := HP.out.1.neRow HSB.out (by decide)
  refine ⟨g2, m2, j2, T', rfl, ⟨?_, ⟨?_, fun e he => ⟨(HP.out.1.pk e he).1.other (fun e1 => ?_) _, (HP.out.1.pk e he).2⟩⟩, HP.out.2.1, HN.out.hm, HN.out.hj, by have := HP.out.2.2.1; have := HN.out.occ; omega, HROOM.out, HN.out.zs⟩, fun k v => ?_, ?_, ?_⟩
  · have := HSB.out.set 0 (.int .u64 (c + 1 : Int))
    simpa using this
  · exact HP.out.1.row.kept (row := some s) ⟨rfl, rfl, rfl, by simp, fun k _ hk => Below.heap_setCell w2 _ _ k (fun e => hk (by rw [e]))⟩ (.inr (by simp [Value.ownBlock]; exact fun e => hne e.symm))
  · have h1 := (HP.out.1.pk e he).1
    have h2 := HSB.out
    simp only at e1
    rw [e1] at h1
    unfold Blk at h1 h2
    rw [h1] at h2
    injection h2 with h2
    injection h2 with _ h2
    cases h2
  · first | exact HP.out.2.2.2 k v | (rw [HP.out.2.2.2, HKV.out])
  · exact ((HKY.out.1.trans (KeepY.of (KeepX.of_below ((Below.refl _ _).alloc (Nat.le_refl _) _)))).trans (KeepY.of HK2.out.1)).set _
  · exact ((HKY.out.2.alloc hZW _).trans HK2.out.2).setCell HN.out.zs _

theorem mset_any (F : Int → Nat) (hF : HomeIs F) (Z s g m j c : Nat) (T : Fi.Tb) (key val : Int) (w : World) (hM : MapAt w F Z s g m j c T) (hc : c ≤ 300) (hZ : Z ≤ w.heap.size) :
    Calls Try.prog 19 #[.pointer (some ⟨s, 0, none⟩), .int .u64 key, .int .u64 val] w (SetM F Z s c T key val w) := by
  obtain ⟨r, hd, hr⟩ := fi_float (c + 1) j (by omega) (by have := hM.hj; omega)
  rw [← hM.hm, show ((c + 1 : Nat) : Int) = (c : Int) + 1 by omega] at hd
  by_cases h : 3 * 2 ^ j < 4 * (c + 1)
  · have hj : j ≤ 9 := by
      rcases Nat.lt_or_ge 9 j with h1 | h1
      · exfalso
        have := Nat.pow_le_pow_right (n := 2) (by decide) h1
        omega
      · exact h1
    rw [decide_eq_true h] at hr
    exact mset_full F hF Z s g m j c T key val w hM hj hc hZ r hd hr
  · rw [decide_eq_false h] at hr
    exact mset_room F hF Z s g m j c T key val w hM (by rw [hM.hm]; omega) hc hZ r hd hr
end Go.Proofs.Ytidekgmpbcnfmaa
