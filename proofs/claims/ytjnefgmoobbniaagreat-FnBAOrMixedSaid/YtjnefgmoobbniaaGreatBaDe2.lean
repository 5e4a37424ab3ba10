/- Walk of a dense array's ToNums. -/
import Derived.Test.YtjnefgmoobbniaaGreatBaDe1
import Derived.Deep.RegionHeld3
namespace Go.Proofs.YtjnefgmoobbniaaGreat
set_option linter.unusedVariables false
open Go.RowKit Bam

def AllDe (W : List Nat) (n B q : Nat) (w : World) (k : Nat) (idx : Value) (wr : World) : Prop :=
  ∃ (i : Nat) (a : Option Addr) (m c : Nat), idx = .int .i64 (i : Int) ∧ i + k = n ∧ m = (nums ((dps W).take i)).length ∧ wr.ownsRow B 34 1 (.slice a m c) m (u64s (nums ((dps W).take i))) ∧ One wr q 24 (.slice a m c) ∧ Below B w wr

theorem make_u64 (C : Nat) (hC : C ≤ 1000000) (w : World) : (Instr.makeSlice 24 (.int .i64 0) (.int .u64 (C : Int))).run Tryz.prog w = .ok (.slice (some ⟨w.heap.size, 0, none⟩) 0 C) (w.alloc (.cells (madeCells #[.int .u64 0] (C * 1)) 34)) := by
  obtain ⟨i, h2, h3, h4, h5⟩ := info_parts info_u64
  have h := run_make (P := Tryz.prog) w 24 34 i (.int .u64 0) Tryz.underlying24 h2 h3 .i64 .u64 0 C (by omega) (by omega) (by rw [h5]; omega) (by omega)
  have e : (Value.int .u64 0).cells = #[.int .u64 0] := rfl
  rw [e, h4] at h
  simpa using h

set_option maxRecDepth 100000 in
set_option maxHeartbeats 1000000 in
theorem nums_de (p : Nat) (F W : List Nat) (w : World) (h : DeW w p F W) (hok : W64 W) (hn : W.length ≤ 10000) :
    Calls Tryz.prog 67 #[.pointer (some ⟨p, 0, none⟩)] w fun e w' => ∃ a m c, e = .returned (.slice a m c) ∧ w'.ownsRow w.heap.size 34 1 (.slice a m c) m (u64s (dnums W)) ∧ Below w.heap.size w w' := by
  have hlo : loW W / 4 ≤ hiW W := by
    by_cases ha : anyW W = true
    · have := lo_le_hi hok ha; omega
    · have e : dnums W = [] := by unfold anyW at ha; simpa using ha
      obtain ⟨z1, z2, _⟩ := lo_nil e
      rw [z1, z2]; decide
  have hhi : hiW W ≤ 640000 := by
    rcases hi_lt hok with e | e
    · omega
    · obtain ⟨_, z2, _⟩ := lo_nil e
      omega
  obtain ⟨a, c, c0, c1, c2, c3, hcells⟩ := DeAt.cells h
  obtain ⟨lo, hlE⟩ : ∃ lo, loW W = lo := ⟨_, rfl⟩
  obtain ⟨hi, hhE⟩ : ∃ hi, hiW W = hi := ⟨_, rfl⟩
  obtain ⟨n, hN⟩ : ∃ n, n = W.length := ⟨_, rfl⟩
  rw [hlE] at c1 hlo
  rw [hhE] at c2 hlo hhi
  rw [← hN] at c0 hn hcells
  obtain ⟨Q, hQ⟩ : ∃ Q, lo / 4 = Q := ⟨_, rfl⟩
  have hq1 : (lo : Int) / 4 = (Q : Int) := by omega
  obtain ⟨C, hC⟩ : ∃ C, hi - Q = C := ⟨_, rfl⟩
  have hC1 : IntKind.u64.wrap ((hi : Int) - (Q : Int)) = (C : Int) := by rw [show (hi : Int) - (Q : Int) = (C : Int) by omega]; exact u64wd C (by omega)
  have hqw : IntKind.u64.wrap (Q : Int) = (Q : Int) := u64wd Q (by omega)
  have hmk := make_u64 C (by omega)
  have hCb : C ≤ 1000000 := by omega
  have hp := World.block_lt_of_cell? w _ c1
  have HN := Lib.hid hN
  have HC := Lib.hid hcells
  have HOK := Lib.hid hok
  have C0 := Lib.hid c0
  clear hcells h hN hok hlE hhE hQ hC c3 c0
  go_enter Tryz.func67, Tryz.ntmps67
  go_wp2_with fail
  go_region_held3 (fun w' => w'.cell? ⟨p, 1, none⟩ = some (.int .u64 (lo : Int)) ∧ w'.cell? ⟨p, 2, none⟩ = some (.int .u64 (hi : Int))) (first | go_keep | trivial) (fail)
  -- ways
  · have hO : (((w.alloc (.cells (madeCells #[.int .u64 0] (C * 1)) 34)).alloc (.cells #[.slice (some ⟨w.heap.size, 0, none⟩) 0 C] 24)).drew).ownsRow w.heap.size 34 1 (.slice (some ⟨w.heap.size, 0, none⟩) 0 C) 0 [] := ((World.ownsRow_made w (base := w.heap.size) (e := 34) (size := 1) (madeCells #[.int .u64 0] (C * 1)) C (Nat.le_refl _) (by unfold maxLen; omega) (by simp [madeCells])).alloc _)
    have hq : One (((w.alloc (.cells (madeCells #[.int .u64 0] (C * 1)) 34)).alloc (.cells #[.slice (some ⟨w.heap.size, 0, none⟩) 0 C] 24)).drew) (w.heap.size + 1) 24 (.slice (some ⟨w.heap.size, 0, none⟩) 0 C) := (by have h := One.new (w.alloc (.cells (madeCells #[.int .u64 0] (C * 1)) 34)) 24 (.slice (some ⟨w.heap.size, 0, none⟩) 0 C); rw [World.size_alloc] at h; exact h)
    have hB : Below w.heap.size w (((w.alloc (.cells (madeCells #[.int .u64 0] (C * 1)) 34)).alloc (.cells #[.slice (some ⟨w.heap.size, 0, none⟩) 0 C] 24)).drew) := (((Below.refl _ _).alloc (Nat.le_refl _) _).alloc (by simp) _).drew
    obtain ⟨wA, hwA⟩ : ∃ wA, ((w.alloc (.cells (madeCells #[.int .u64 0] C) 34)).alloc (.cells #[.slice (some ⟨w.heap.size, 0, none⟩) 0 C] 24)).drew = wA := ⟨_, rfl⟩
    rw [Nat.mul_one, hwA] at hO hq hB
    rw [hwA]
    have hqge : w.heap.size ≤ w.heap.size + 1 := by omega
    obtain ⟨q, hqq⟩ : ∃ q, w.heap.size + 1 = q := ⟨_, rfl⟩
    rw [hqq] at hq hqge ⊢
    skip
    skip
    skip
    skip
    have HQ := Lib.hid hq
    have HBA := Lib.hid hB
    have HOA := Lib.hid hO
    clear hwA hqq hq hB hO
    have h0A := cell_below HBA.out (Nat.le_refl _) C0.out
    go_wp2_with fail
    go_loopg [22] n (fun k idx wr => AllDe W n w.heap.size q w k idx wr)
    case atStart => exact ⟨0, _, 0, _, rfl, by omega, rfl, HOA.out, HQ.out, HBA.out⟩
    case round =>
      obtain ⟨i, a', m, c', rfl, hik, hm, hown, hq, hbel⟩ := hrel
      have hnl := nums_take_len (dps W) i
      have HM := Lib.hid hm
      have HOW := Lib.hid hown
      have HQQ := Lib.hid hq
      have HBE := Lib.hid hbel
      clear hm hown hq hbel h0A
      by_cases hi : i < n
      · have hip : i < W.length := by rw [← HN.out]; exact hi
        obtain ⟨g1, rfl, hcl⟩ := HC.out (by omega)
        have hci := hcl i hi
        have hX64 : W.getD i 0 < 18446744073709551616 := getD_lt HOK.out i
        have e1 := nums_take (dps W) i (by rw [dps_len]; exact hip)
        rw [dps_getD W i hip] at e1
        obtain ⟨X, hX⟩ : ∃ X, W.getD i 0 = X := ⟨_, rfl⟩
        simp only [hX] at hci hX64 e1
        have k2 : wr.cell? ⟨g1, i, none⟩ = some (.int .u64 (X : Int)) := (HBE.out.cell (World.block_lt_of_cell? w _ hci)).trans hci
        have ht := tonums_any X (i * 64) w.heap.size q 24 (nums ((dps W).take i)) a' m c' wr hX64 (by omega) (by decide) HM.out (by omega) HOW.out HQQ.out hqge HBE.out.size
        rw [← e1] at ht
        have el : (nums ((dps W).take i)).length + (bitsOf X).length = (nums ((dps W).take (i + 1))).length := by rw [e1]; simp
        rw [el] at ht
        have hpc : ((i * 64 : Nat) : Int) = (i : Int) * 64 := by omega
        rw [hpc] at ht
        have HT := Lib.hid ht
        have hiw : IntKind.u64.wrap (i : Int) = (i : Int) := u64wd i (by omega)
        clear hcl hci hX e1 ht el hnl hpc
        cases gk with
        | zero => omega
        | succ k =>
          go_wp2_with fail
          refine HT.out.mono ?_
          rintro e w3 ⟨rfl, a2', m', c2', hm', hown', hq', hbel'⟩
          have HM' := Lib.hid hm'
          have HO' := Lib.hid hown'
          have HQ' := Lib.hid hq'
          have HB' := Lib.hid hbel'
          clear hm' hown' hq' hbel'
          go_wp2_with fail
          go_roundg k
          case measure => omega
          case rel => exact ⟨i + 1, a2', m', c2', by go_num, by omega, HM'.out, HO'.out, HQ'.out, HBE.out.trans HB'.out⟩
      · obtain rfl : i = n := by omega
        have et : (dps W).take i = dps W := List.take_of_length_le (by rw [dps_len, HN.out]; exact Nat.le_refl _)
        have hqc := HQQ.out.cell
        rw [et] at HOW
        clear et hnl
        go_wp2_with fail
        go_ret
        exact ⟨a', m, c', rfl, HOW.out, HBE.out⟩
  · have hO : (((w.alloc (.cells #[.slice (some ⟨w.heap.size + 1, 0, none⟩) 0 C] 24)).alloc (.cells (madeCells #[.int .u64 0] (C * 1)) 34)).drew).ownsRow w.heap.size 34 1 (.slice (some ⟨w.heap.size + 1, 0, none⟩) 0 C) 0 [] := (by have h := World.ownsRow_made (w.alloc (.cells #[.slice (some ⟨w.heap.size + 1, 0, none⟩) 0 C] 24)) (base := w.heap.size) (e := 34) (size := 1) (madeCells #[.int .u64 0] (C * 1)) C (by simp) (by unfold maxLen; omega) (by simp [madeCells]); rw [World.size_alloc] at h; exact h)
    have hq : One (((w.alloc (.cells #[.slice (some ⟨w.heap.size + 1, 0, none⟩) 0 C] 24)).alloc (.cells (madeCells #[.int .u64 0] (C * 1)) 34)).drew) (w.heap.size) 24 (.slice (some ⟨w.heap.size + 1, 0, none⟩) 0 C) := ((One.new w 24 (.slice (some ⟨w.heap.size + 1, 0, none⟩) 0 C)).alloc _)
    have hB : Below w.heap.size w (((w.alloc (.cells #[.slice (some ⟨w.heap.size + 1, 0, none⟩) 0 C] 24)).alloc (.cells (madeCells #[.int .u64 0] (C * 1)) 34)).drew) := (((Below.refl _ _).alloc (Nat.le_refl _) _).alloc (by simp) _).drew
    obtain ⟨wA, hwA⟩ : ∃ wA, ((w.alloc (.cells #[.slice (some ⟨w.heap.size + 1, 0, none⟩) 0 C] 24)).alloc (.cells (madeCells #[.int .u64 0] C) 34)).drew = wA := ⟨_, rfl⟩
    rw [Nat.mul_one, hwA] at hO hq hB
    rw [hwA]
    have hqge : w.heap.size ≤ w.heap.size := by omega
    obtain ⟨q, hqq⟩ : ∃ q, w.heap.size = q := ⟨_, rfl⟩
    have hqq2 := hqq
    have hq0 : One wA q 24 (.slice (some ⟨w.heap.size + 1, 0, none⟩) 0 C) := by rw [← hqq]; exact hq
    have hpq : Value.pointer (some ⟨w.heap.size, 0, none⟩) = .pointer (some ⟨q, 0, none⟩) := by rw [hqq]
    replace hqge : w.heap.size ≤ q := by omega
    rw [hpq]
    have HQ := Lib.hid hq0
    have HBA := Lib.hid hB
    have HOA := Lib.hid hO
    clear hwA hqq hqq2 hpq hq0 hq hB hO
    have h0A := cell_below HBA.out (Nat.le_refl _) C0.out
    go_wp2_with fail
    go_loopg [22] n (fun k idx wr => AllDe W n w.heap.size q w k idx wr)
    case atStart => exact ⟨0, _, 0, _, rfl, by omega, rfl, HOA.out, HQ.out, HBA.out⟩
    case round =>
      obtain ⟨i, a', m, c', rfl, hik, hm, hown, hq, hbel⟩ := hrel
      have hnl := nums_take_len (dps W) i
      have HM := Lib.hid hm
      have HOW := Lib.hid hown
      have HQQ := Lib.hid hq
      have HBE := Lib.hid hbel
      clear hm hown hq hbel h0A
      by_cases hi : i < n
      · have hip : i < W.length := by rw [← HN.out]; exact hi
        obtain ⟨g1, rfl, hcl⟩ := HC.out (by omega)
        have hci := hcl i hi
        have hX64 : W.getD i 0 < 18446744073709551616 := getD_lt HOK.out i
        have e1 := nums_take (dps W) i (by rw [dps_len]; exact hip)
        rw [dps_getD W i hip] at e1
        obtain ⟨X, hX⟩ : ∃ X, W.getD i 0 = X := ⟨_, rfl⟩
        simp only [hX] at hci hX64 e1
        have k2 : wr.cell? ⟨g1, i, none⟩ = some (.int .u64 (X : Int)) := (HBE.out.cell (World.block_lt_of_cell? w _ hci)).trans hci
        have ht := tonums_any X (i * 64) w.heap.size q 24 (nums ((dps W).take i)) a' m c' wr hX64 (by omega) (by decide) HM.out (by omega) HOW.out HQQ.out hqge HBE.out.size
        rw [← e1] at ht
        have el : (nums ((dps W).take i)).length + (bitsOf X).length = (nums ((dps W).take (i + 1))).length := by rw [e1]; simp
        rw [el] at ht
        have hpc : ((i * 64 : Nat) : Int) = (i : Int) * 64 := by omega
        rw [hpc] at ht
        have HT := Lib.hid ht
        have hiw : IntKind.u64.wrap (i : Int) = (i : Int) := u64wd i (by omega)
        clear hcl hci hX e1 ht el hnl hpc
        cases gk with
        | zero => omega
        | succ k =>
          go_wp2_with fail
          refine HT.out.mono ?_
          rintro e w3 ⟨rfl, a2', m', c2', hm', hown', hq', hbel'⟩
          have HM' := Lib.hid hm'
          have HO' := Lib.hid hown'
          have HQ' := Lib.hid hq'
          have HB' := Lib.hid hbel'
          clear hm' hown' hq' hbel'
          go_wp2_with fail
          go_roundg k
          case measure => omega
          case rel => exact ⟨i + 1, a2', m', c2', by go_num, by omega, HM'.out, HO'.out, HQ'.out, HBE.out.trans HB'.out⟩
      · obtain rfl : i = n := by omega
        have et : (dps W).take i = dps W := List.take_of_length_le (by rw [dps_len, HN.out]; exact Nat.le_refl _)
        have hqc := HQQ.out.cell
        rw [et] at HOW
        clear et hnl
        go_wp2_with fail
        go_ret
        exact ⟨a', m, c', rfl, HOW.out, HBE.out⟩
end Go.Proofs.YtjnefgmoobbniaaGreat
