/- Walks of laws.baSmall and laws.baRoom (printed by gen_ba_small.py). -/
import Derived.Test.YtjnefgmoobbniaaGreatBaAndDe
import Derived.Test.YtjnefgmoobbniaaGreatBaSets3
import Derived.Deep.QuietTactic
import Derived.BigQuiet
namespace Go.Proofs.YtjnefgmoobbniaaGreat
set_option linter.unusedVariables false
open Go.RowKit Bam

def small (a : List Nat) : List Nat := a.map (· % 2000)
theorem small_take (a : List Nat) (i : Nat) (h : i < a.length) : small (a.take (i + 1)) = small (a.take i) ++ [a.getD i 0 % 2000] := by
  unfold small
  rw [List.take_succ_eq_append_getElem h, List.map_append]
  rw [show a.getD i 0 = a[i] by rw [List.getD_eq_getElem?_getD, List.getElem?_eq_getElem h]; rfl]
  rfl
theorem small_lt (a : List Nat) : ∀ x ∈ small a, x < 2000 := by
  intro x hx
  obtain ⟨y, _, rfl⟩ := List.mem_map.1 hx
  exact Nat.mod_lt _ (by decide)
def SmallLoop (A : List Nat) (n : Nat) (w : World) (k : Nat) (so idx : Value) (wr : World) : Prop :=
  ∃ (i : Nat) (p : Option Addr) (cc : Nat), so = .slice p i cc ∧ idx = .int .i64 (i : Int) ∧ i + k = n ∧ wr.ownsRow w.heap.size 34 1 (.slice p i cc) i (u64s (small (A.take i))) ∧ Below w.heap.size w wr

set_option maxRecDepth 100000 in
set_option maxHeartbeats 2000000 in
theorem small_any (v : Value) (A : List Nat) (w : World) (h : Sl w v (u64s A)) (hA : A.length ≤ 2147483647) (hb : ∀ x ∈ A, x < 18446744073709551616) :
    Calls Tryz.prog 14 #[v] w fun e w' => ∃ p m c, e = .returned (.slice p m c) ∧ m = A.length ∧ Sl w' (.slice p m c) (u64s (small A)) ∧ Below w.heap.size w w' := by
  obtain ⟨a, n, cap, rfl, hl, hc, hm, hr⟩ := h
  rw [u64s_len] at hl
  rw [hl] at hA
  have HL := Lib.hid hl
  have HR := Lib.hid hr
  have HBD := Lib.hid hb
  clear hl hc hm hr hb
  go_enter Tryz.func14, Tryz.ntmps14
  go_wp2_with fail
  go_loopg [3, 4] n (fun k so idx wr => SmallLoop A n w k so idx wr)
  case atStart => exact ⟨0, none, 0, rfl, rfl, by omega, World.ownsRow_nil _ _ _ _, Below.refl _ _⟩
  case round =>
    obtain ⟨i, p, cc, rfl, rfl, hik, hown, hbel⟩ := hrel
    have hsz := hbel.size
    have HO := Lib.hid hown
    have HB := Lib.hid hbel
    by_cases hi : i < n
    · obtain ⟨b, off, rfl, hcell⟩ := HR.out (by omega)
      have hil : i < A.length := by rw [HL.out]; exact hi
      have hc := hcell i (.int .u64 ((A.getD i 0 : Nat) : Int)) (by unfold u64s; rw [List.getElem?_map, List.getD_eq_getElem?_getD, List.getElem?_eq_getElem hil]; rfl)
      have hc2 := cell_below hbel (Nat.le_refl _) hc
      have hsu := small_take A i hil
      have hX64 : A.getD i 0 < 18446744073709551616 := HBD.out _ (by rw [List.getD_eq_getElem?_getD, List.getElem?_eq_getElem hil]; exact List.getElem_mem _)
      obtain ⟨X, hX⟩ : ∃ X, A.getD i 0 = X := ⟨_, rfl⟩
      rw [hX] at hc2 hsu hX64
      obtain ⟨Y, hY⟩ : ∃ Y, X % 2000 = Y := ⟨_, rfl⟩
      have hYi : (X : Int) % 2000 = (Y : Int) := by omega
      have hYt : Int.tmod (X : Int) 2000 = (Y : Int) := by rw [Int.tmod_eq_emod_of_nonneg (by omega)]; exact hYi
      rw [hY] at hsu
      have hYw : IntKind.u64.wrap (Y : Int) = (Y : Int) := u64wd Y (by omega)
      have HS := Lib.hid hsu
      have HYI := Lib.hid hYi
      have HYT := Lib.hid hYt
      have i1 : decide (i < n) = true := by rw [decide_eq_true_iff]; exact hi
      have i2 : (i : Int) < (n : Int) := by omega
      have i3 : (0 : Int) ≤ (i : Int) := by omega
      have hiw : IntKind.i64.wrap ((i : Int) + 1) = ((i + 1 : Nat) : Int) := by rw [show (i : Int) + 1 = ((i + 1 : Nat) : Int) by omega]; exact IntWalk.i64_in _ (by omega)
      clear hcell hc hsu hown hbel hX hil hY
      cases gk with
      | zero => omega
      | succ k =>
        go_wp2_with (at_builtin; (try rw [HYI.out]); (try rw [HYT.out]); refine wpList_append1 rfl _ _ 24 rfl w.heap.size 34 (.int .u64 0) 8 Tryz.underlying24 info_u64 rfl (.slice p i cc) i _ rfl HO.out (.int .u64 (Y : Int)) rfl rfl (by unfold maxLen; omega) (by omega) (by omega) ?_; intro g5 k5 w5 hown5 hg5 hb5; have HO5 := Lib.hid hown5; have HB5 := Lib.hid (HB.out.trans hb5); clear hown5 hg5 hb5)
        go_roundg k
        case measure => omega
        case rel =>
          refine ⟨i + 1, some ⟨g5, 0, none⟩, k5, rfl, by go_num, by omega, ?_, HB5.out⟩
          rw [HS.out, u64s_append]
          exact HO5.out
    · obtain rfl : i = n := by omega
      have i1 : decide (i < i) = false := by rw [decide_eq_false_iff_not]; omega
      clear hown hbel
      go_wp2_with fail
      go_ret
      refine ⟨_, _, _, rfl, HL.out.symm, ?_, HB.out⟩
      have h := HO.out
      rw [List.take_of_length_le (by rw [HL.out]; exact Nat.le_refl _)] at h
      exact Sl.of_owns h

set_option maxRecDepth 100000 in
set_option maxHeartbeats 4000000 in
theorem baroom_tf (wd1 wd2 : Nat) (S1 S2 : List Nat) (hw0 : 0 < wd1) (hw : wd1 ≤ 1000) (h1 : S1.length ≤ 100000) (h2 : S2.length ≤ 100000) : FitsC 16 true false wd1 wd2 S1 S2 (decide (S2.getLastD 0 < 64 * wd1)) := by
  intro w s1 s2 k1 k2
  obtain ⟨a, c, rfl, hr1⟩ := k1.shape
  obtain ⟨b, d, rfl, hr2⟩ := k2.shape
  obtain ⟨n, hn⟩ : ∃ n, S1.length = n := ⟨_, rfl⟩
  obtain ⟨m, hm⟩ : ∃ m, S2.length = m := ⟨_, rfl⟩
  rw [hn] at hr1 h1 ⊢
  rw [hm] at hr2 h2 ⊢
  have hwm : IntKind.u64.wrap (64 * (wd1 : Int)) = ((64 * wd1 : Nat) : Int) := by rw [show 64 * (wd1 : Int) = ((64 * wd1 : Nat) : Int) by omega]; exact u64wd _ (by omega)
  have hb0 : Below w.heap.size w ((w.alloc (.cells #[.bool true, .int .u64 (wd1 : Int), .slice a n c] 36)).alloc (.cells #[.bool false, .int .u64 (wd2 : Int), .slice b m d] 36)) := ((Below.refl _ _).alloc (Nat.le_refl _) _).alloc (by simp) _
  have hq1 := (Blk.new w 36 #[.bool true, .int .u64 (wd1 : Int), .slice a n c]).alloc (.cells #[.bool false, .int .u64 (wd2 : Int), .slice b m d] 36)
  have hq2 := Blk.new (w.alloc (.cells #[.bool true, .int .u64 (wd1 : Int), .slice a n c] 36)) 36 #[.bool false, .int .u64 (wd2 : Int), .slice b m d]
  rw [World.size_alloc] at hq2
  by_cases hz : m = 0
  · have he : decide (S2.getLastD 0 < 64 * wd1) = true := by
      rw [decide_eq_true_iff]
      have e : S2 = [] := List.eq_nil_of_length_eq_zero (by omega)
      rw [e]
      show 0 < 64 * wd1
      omega
    rw [he]
    have t0 : ((m : Int) == 0) = true := by rw [beq_iff_eq]; omega
    have HB0 := Lib.hid hb0
    have HQ1 := Lib.hid hq1
    have HQ2 := Lib.hid hq2
    clear k1 k2 hr1 hr2 hn hm he hb0 hz hq1 hq2
    go_enter Tryz.func16, Tryz.ntmps16
    go_wp2_with fail
    have hb0 := HB0.out
    have hq1 := HQ1.out
    have hq2 := HQ2.out
    obtain ⟨w0, hw0⟩ : ∃ w0, (w.alloc (.cells #[.bool true, .int .u64 (wd1 : Int), .slice a n c] 36)).alloc (.cells #[.bool false, .int .u64 (wd2 : Int), .slice b m d] 36) = w0 := ⟨_, rfl⟩
    rw [hw0] at hb0 hq1 hq2 ⊢
    have a0 := hq1.cell 0 rfl
    have a1 := hq1.cell 1 rfl
    have a2 := hq1.cell 2 rfl
    have b0 := hq2.cell 0 rfl
    have b1 := hq2.cell 1 rfl
    have b2 := hq2.cell 2 rfl
    clear HB0 HQ1 HQ2 hq1 hq2 hw0
    have HB0 := Lib.hid hb0
    clear hb0
    go_quiet (fail)
    go_wp2_with fail
    go_ret
    exact ⟨rfl, below_drewN HB0.out _⟩
  · obtain ⟨l, hl⟩ : ∃ l, m = l + 1 := ⟨m - 1, by omega⟩
    obtain ⟨g, rfl, hcl⟩ := hr2 (by omega)
    have hcm := hcl l (by omega)
    have he : S2.getLastD 0 = S2.getD l 0 := by
      rw [List.getLastD_eq_getLast?, List.getLast?_eq_getElem?, hm, hl, Nat.add_sub_cancel, List.getD_eq_getElem?_getD]
    rw [he]

    obtain ⟨X, hX⟩ : ∃ X, S2.getD l 0 = X := ⟨_, rfl⟩
    rw [hX] at hcm ⊢
    obtain ⟨Z, hZ⟩ : ∃ Z, 64 * wd1 = Z := ⟨_, rfl⟩
    rw [hZ] at hwm ⊢
    have t0 : ((m : Int) == 0) = false := by rw [beq_eq_false_iff_ne]; omega
    have i1 : IntKind.i64.wrap ((m : Int) - 1) = (l : Int) := by rw [IntWalk.i64_in _ (by omega)]; omega
    have i1b : (m : Int) - 1 = (l : Int) := by omega
    have i2 : (l : Int) < (m : Int) := by omega
    have i3 : (0 : Int) ≤ (l : Int) := by omega
    have i4 : l < m := by omega
    have hc0 := cell_below hb0 (Nat.le_refl _) hcm
    have HB0 := Lib.hid hb0
    have HQ1 := Lib.hid hq1
    have HQ2 := Lib.hid hq2
    have HC0 := Lib.hid hc0
    clear k1 k2 hr1 hr2 hn hm he hb0 hz hq1 hq2 hX hcl hl hcm hc0 hZ
    by_cases hxz : X < Z
    · have t1 : decide (X < Z) = true := by rw [decide_eq_true_iff]; exact hxz
      rw [t1]
      clear hxz
      go_enter Tryz.func16, Tryz.ntmps16
      go_wp2_with fail
      have hb0 := HB0.out
      have hq1 := HQ1.out
      have hq2 := HQ2.out
      have hc0 := HC0.out
      obtain ⟨w0, hw0⟩ : ∃ w0, (w.alloc (.cells #[.bool true, .int .u64 (wd1 : Int), .slice a n c] 36)).alloc (.cells #[.bool false, .int .u64 (wd2 : Int), .slice (some ⟨g, 0, none⟩) m d] 36) = w0 := ⟨_, rfl⟩
      rw [hw0] at hb0 hq1 hq2 hc0 ⊢
      have a0 := hq1.cell 0 rfl
      have a1 := hq1.cell 1 rfl
      have a2 := hq1.cell 2 rfl
      have b0 := hq2.cell 0 rfl
      have b1 := hq2.cell 1 rfl
      have b2 := hq2.cell 2 rfl
      clear HB0 HQ1 HQ2 HC0 hq1 hq2 hw0
      have HB0 := Lib.hid hb0
      clear hb0
      go_quiet (fail)
      go_wp2_with fail
      go_ret
      exact ⟨rfl, below_drewN HB0.out _⟩
    · have t1 : decide (X < Z) = false := by rw [decide_eq_false_iff_not]; exact hxz
      rw [t1]
      clear hxz
      go_enter Tryz.func16, Tryz.ntmps16
      go_wp2_with fail
      have hb0 := HB0.out
      have hq1 := HQ1.out
      have hq2 := HQ2.out
      have hc0 := HC0.out
      obtain ⟨w0, hw0⟩ : ∃ w0, (w.alloc (.cells #[.bool true, .int .u64 (wd1 : Int), .slice a n c] 36)).alloc (.cells #[.bool false, .int .u64 (wd2 : Int), .slice (some ⟨g, 0, none⟩) m d] 36) = w0 := ⟨_, rfl⟩
      rw [hw0] at hb0 hq1 hq2 hc0 ⊢
      have a0 := hq1.cell 0 rfl
      have a1 := hq1.cell 1 rfl
      have a2 := hq1.cell 2 rfl
      have b0 := hq2.cell 0 rfl
      have b1 := hq2.cell 1 rfl
      have b2 := hq2.cell 2 rfl
      clear HB0 HQ1 HQ2 HC0 hq1 hq2 hw0
      have HB0 := Lib.hid hb0
      clear hb0
      go_quiet (fail)
      go_wp2_with fail
      go_ret
      exact ⟨rfl, below_drewN HB0.out _⟩

set_option maxRecDepth 100000 in
set_option maxHeartbeats 4000000 in
theorem baroom_ft (wd1 wd2 : Nat) (S1 S2 : List Nat) (hw0 : 0 < wd2) (hw : wd2 ≤ 1000) (h1 : S1.length ≤ 100000) (h2 : S2.length ≤ 100000) : FitsC 16 false true wd1 wd2 S1 S2 (decide (S1.getLastD 0 < 64 * wd2)) := by
  intro w s1 s2 k1 k2
  obtain ⟨a, c, rfl, hr1⟩ := k1.shape
  obtain ⟨b, d, rfl, hr2⟩ := k2.shape
  obtain ⟨n, hn⟩ : ∃ n, S1.length = n := ⟨_, rfl⟩
  obtain ⟨m, hm⟩ : ∃ m, S2.length = m := ⟨_, rfl⟩
  rw [hn] at hr1 h1 ⊢
  rw [hm] at hr2 h2 ⊢
  have hwm : IntKind.u64.wrap (64 * (wd2 : Int)) = ((64 * wd2 : Nat) : Int) := by rw [show 64 * (wd2 : Int) = ((64 * wd2 : Nat) : Int) by omega]; exact u64wd _ (by omega)
  have hb0 : Below w.heap.size w ((w.alloc (.cells #[.bool false, .int .u64 (wd1 : Int), .slice a n c] 36)).alloc (.cells #[.bool true, .int .u64 (wd2 : Int), .slice b m d] 36)) := ((Below.refl _ _).alloc (Nat.le_refl _) _).alloc (by simp) _
  have hq1 := (Blk.new w 36 #[.bool false, .int .u64 (wd1 : Int), .slice a n c]).alloc (.cells #[.bool true, .int .u64 (wd2 : Int), .slice b m d] 36)
  have hq2 := Blk.new (w.alloc (.cells #[.bool false, .int .u64 (wd1 : Int), .slice a n c] 36)) 36 #[.bool true, .int .u64 (wd2 : Int), .slice b m d]
  rw [World.size_alloc] at hq2
  by_cases hz : n = 0
  · have he : decide (S1.getLastD 0 < 64 * wd2) = true := by
      rw [decide_eq_true_iff]
      have e : S1 = [] := List.eq_nil_of_length_eq_zero (by omega)
      rw [e]
      show 0 < 64 * wd2
      omega
    rw [he]
    have t0 : ((n : Int) == 0) = true := by rw [beq_iff_eq]; omega
    have HB0 := Lib.hid hb0
    have HQ1 := Lib.hid hq1
    have HQ2 := Lib.hid hq2
    clear k1 k2 hr1 hr2 hn hm he hb0 hz hq1 hq2
    go_enter Tryz.func16, Tryz.ntmps16
    go_wp2_with fail
    have hb0 := HB0.out
    have hq1 := HQ1.out
    have hq2 := HQ2.out
    obtain ⟨w0, hw0⟩ : ∃ w0, (w.alloc (.cells #[.bool false, .int .u64 (wd1 : Int), .slice a n c] 36)).alloc (.cells #[.bool true, .int .u64 (wd2 : Int), .slice b m d] 36) = w0 := ⟨_, rfl⟩
    rw [hw0] at hb0 hq1 hq2 ⊢
    have a0 := hq1.cell 0 rfl
    have a1 := hq1.cell 1 rfl
    have a2 := hq1.cell 2 rfl
    have b0 := hq2.cell 0 rfl
    have b1 := hq2.cell 1 rfl
    have b2 := hq2.cell 2 rfl
    clear HB0 HQ1 HQ2 hq1 hq2 hw0
    have HB0 := Lib.hid hb0
    clear hb0
    go_quiet (fail)
    go_wp2_with fail
    go_ret
    exact ⟨rfl, below_drewN HB0.out _⟩
  · obtain ⟨l, hl⟩ : ∃ l, n = l + 1 := ⟨n - 1, by omega⟩
    obtain ⟨g, rfl, hcl⟩ := hr1 (by omega)
    have hcm := hcl l (by omega)
    have he : S1.getLastD 0 = S1.getD l 0 := by
      rw [List.getLastD_eq_getLast?, List.getLast?_eq_getElem?, hn, hl, Nat.add_sub_cancel, List.getD_eq_getElem?_getD]
    rw [he]

    obtain ⟨X, hX⟩ : ∃ X, S1.getD l 0 = X := ⟨_, rfl⟩
    rw [hX] at hcm ⊢
    obtain ⟨Z, hZ⟩ : ∃ Z, 64 * wd2 = Z := ⟨_, rfl⟩
    rw [hZ] at hwm ⊢
    have t0 : ((n : Int) == 0) = false := by rw [beq_eq_false_iff_ne]; omega
    have i1 : IntKind.i64.wrap ((n : Int) - 1) = (l : Int) := by rw [IntWalk.i64_in _ (by omega)]; omega
    have i1b : (n : Int) - 1 = (l : Int) := by omega
    have i2 : (l : Int) < (n : Int) := by omega
    have i3 : (0 : Int) ≤ (l : Int) := by omega
    have i4 : l < n := by omega
    have hc0 := cell_below hb0 (Nat.le_refl _) hcm
    have HB0 := Lib.hid hb0
    have HQ1 := Lib.hid hq1
    have HQ2 := Lib.hid hq2
    have HC0 := Lib.hid hc0
    clear k1 k2 hr1 hr2 hn hm he hb0 hz hq1 hq2 hX hcl hl hcm hc0 hZ
    by_cases hxz : X < Z
    · have t1 : decide (X < Z) = true := by rw [decide_eq_true_iff]; exact hxz
      rw [t1]
      clear hxz
      go_enter Tryz.func16, Tryz.ntmps16
      go_wp2_with fail
      have hb0 := HB0.out
      have hq1 := HQ1.out
      have hq2 := HQ2.out
      have hc0 := HC0.out
      obtain ⟨w0, hw0⟩ : ∃ w0, (w.alloc (.cells #[.bool false, .int .u64 (wd1 : Int), .slice (some ⟨g, 0, none⟩) n c] 36)).alloc (.cells #[.bool true, .int .u64 (wd2 : Int), .slice b m d] 36) = w0 := ⟨_, rfl⟩
      rw [hw0] at hb0 hq1 hq2 hc0 ⊢
      have a0 := hq1.cell 0 rfl
      have a1 := hq1.cell 1 rfl
      have a2 := hq1.cell 2 rfl
      have b0 := hq2.cell 0 rfl
      have b1 := hq2.cell 1 rfl
      have b2 := hq2.cell 2 rfl
      clear HB0 HQ1 HQ2 HC0 hq1 hq2 hw0
      have HB0 := Lib.hid hb0
      clear hb0
      go_quiet (fail)
      go_wp2_with fail
      go_ret
      exact ⟨rfl, below_drewN HB0.out _⟩
    · have t1 : decide (X < Z) = false := by rw [decide_eq_false_iff_not]; exact hxz
      rw [t1]
      clear hxz
      go_enter Tryz.func16, Tryz.ntmps16
      go_wp2_with fail
      have hb0 := HB0.out
      have hq1 := HQ1.out
      have hq2 := HQ2.out
      have hc0 := HC0.out
      obtain ⟨w0, hw0⟩ : ∃ w0, (w.alloc (.cells #[.bool false, .int .u64 (wd1 : Int), .slice (some ⟨g, 0, none⟩) n c] 36)).alloc (.cells #[.bool true, .int .u64 (wd2 : Int), .slice b m d] 36) = w0 := ⟨_, rfl⟩
      rw [hw0] at hb0 hq1 hq2 hc0 ⊢
      have a0 := hq1.cell 0 rfl
      have a1 := hq1.cell 1 rfl
      have a2 := hq1.cell 2 rfl
      have b0 := hq2.cell 0 rfl
      have b1 := hq2.cell 1 rfl
      have b2 := hq2.cell 2 rfl
      clear HB0 HQ1 HQ2 HC0 hq1 hq2 hw0
      have HB0 := Lib.hid hb0
      clear hb0
      go_quiet (fail)
      go_wp2_with fail
      go_ret
      exact ⟨rfl, below_drewN HB0.out _⟩
end Go.Proofs.YtjnefgmoobbniaaGreat
