/- Walks of laws.isSorted and of Int64Slice's Search and Exists. -/
import Derived.Test.YtgalbnppeboonaaRows
import Derived.Test.YtgalbnppeboonaaSl
import Derived.Test.YtgalbnppeboonaaIsMath
import Derived.WalkSpells
import Derived.WalkLawsBesides
import Derived.Deep.LoopGhost
namespace Go.Proofs.Ytgalbnppeboonaa
set_option linter.unusedVariables false
open Go.RowKit

theorem info_i64 : (Try.prog.info? 2).map (fun i => (i.zero, i.size, i.bytes)) = some (some (.int .i64 0), 1, 8) := by kernel_rfl


theorem len_map (xs : List Int) (k : IntKind) (n : Nat) (h : (xs.map (Value.int k)).length = n) : xs.length = n := by simpa using h
theorem map_at (xs : List Int) (k : IntKind) (i : Nat) (h : i < xs.length) : (xs.map (Value.int k))[i]? = some (.int k (xs.getD i 0)) := by
  simp [List.getElem?_eq_getElem h]

/-- the head of the outer loop -/
def SortOut (xs : List Int) (n : Nat) (w : World) (k : Nat) (idx : Value) (wr : World) : Prop :=
  ∃ i : Nat, idx = .int .i64 (i : Int) ∧ i + k = n ∧ wr.ownsRow w.heap.size 2 1 (.slice (some ⟨w.heap.size, 0, none⟩) n n) n ((Ism.outAt xs i).map (Value.int .i64)) ∧ Below w.heap.size w wr
/-- the head of the inner loop -/
def SortIn (xs : List Int) (n i : Nat) (wo : World) (k : Nat) (idx at_ : Value) (wr : World) : Prop :=
  ∃ j : Nat, idx = .int .i64 (j : Int) ∧ j + k = n ∧ at_ = .int .i64 (Ism.cnt xs i j : Nat) ∧ wr = wo

set_option maxHeartbeats 1000000 in
theorem sorted_any (v : Value) (xs : List Int) (w : World) (hv : Sl w v (xs.map (Value.int .i64))) (hn : xs.length ≤ 60) :
    Calls Try.prog 11 #[v] w fun e w' => ∃ v', e = .returned v' ∧ Sl w' v' ((Ism.sorted xs).map (Value.int .i64)) ∧ Below w.heap.size w w' := by
  obtain ⟨a, n, cap, rfl, hl, hc, hm, hr⟩ := hv
  have hxl := len_map xs _ n hl
  have hn2 : n ≤ 60 := by omega
  have HL := Lib.hid hxl
  clear hl hxl hn
  go_enter Try.func11, Try.ntmps11
  go_wp2_with (at_make; refine wpList_make1 rfl _ _ 33 rfl w.heap.size 2 (.int .i64 0) 8 Try.underlying33 info_i64 rfl _ _ _ _ n rfl rfl rfl rfl (by omega) (by unfold maxLen; omega) (Nat.le_refl _) ?_; intro w1 hown1 hb1 hs1)
  go_loopg [14] n (fun k idx wr => SortOut xs n w k idx wr)
  case atStart => exact ⟨0, rfl, by omega, by simpa [Ism.outAt, HL.out] using hown1, hb1⟩
  case round =>
    obtain ⟨i, rfl, hik, hown, hbel⟩ := hrel
    clear hown1 hb1 hs1
    obtain ⟨wo, rfl⟩ : ∃ wo : World, wo = wr := ⟨_, rfl⟩
    obtain ⟨g1, rfl⟩ : ∃ g : Nat, g = gk := ⟨_, rfl⟩
    by_cases hi : i < n
    · obtain ⟨b, off, rfl, hcell⟩ := hr (by omega)
      have HC := Lib.hid hcell
      have hci : wo.cell? ⟨b, off + i, none⟩ = some (.int .i64 (xs.getD i 0)) := by
        have h := hcell i _ (map_at xs _ i (by rw [HL.out]; exact hi))
        rw [hbel.cell (World.block_lt_of_cell? w _ h)]
        exact h
      clear hcell hr
      have HI := Lib.hid hci
      obtain ⟨X, hX⟩ : ∃ X, xs.getD i 0 = X := ⟨_, rfl⟩
      rw [hX] at hci
      have HX := Lib.hid hX
      clear hX
      go_wp2
      go_loopg [6, 21] n (fun k at_ idx wr => SortIn xs n i wo k idx at_ wr)
      case atStart => exact ⟨0, rfl, by omega, rfl, rfl⟩
      case round =>
        obtain ⟨j, rfl, hjk, rfl, rfl⟩ := hrel
        by_cases hj : j < n
        · have hcj : wr.cell? ⟨b, off + j, none⟩ = some (.int .i64 (xs.getD j 0)) := by
            have h := HC.out j _ (map_at xs _ j (by rw [HL.out]; exact hj))
            rw [hbel.cell (World.block_lt_of_cell? w _ h)]
            exact h
          obtain ⟨Y, hY⟩ : ∃ Y, xs.getD j 0 = Y := ⟨_, rfl⟩
          rw [hY] at hcj
          have hcnt := Ism.cnt_le xs i j
          have e1 : Ism.cnt xs i (j + 1) = Ism.cnt xs i j + if (decide (Y < X) || (decide (Y = X) && decide (j < i))) = true then 1 else 0 := by
            simp only [Ism.cnt, Ism.before, hY, HX.out]
          have E1 := Lib.hid e1
          clear hY e1 hci
          cases gk with
          | zero => omega
          | succ k =>
            by_cases c1 : Y < X
            · go_wp2_with fail
              go_roundg k
              case measure => omega
              case rel => exact ⟨j + 1, by go_num, by omega, by rw [E1.out]; simp [c1], rfl⟩
            · by_cases c2 : Y = X
              · subst c2
                by_cases c3 : j < i
                · go_wp2_with fail
                  go_roundg k
                  case measure => omega
                  case rel => exact ⟨j + 1, by go_num, by omega, by rw [E1.out]; simp [c3], rfl⟩
                · go_wp2_with fail
                  go_roundg k
                  case measure => omega
                  case rel => exact ⟨j + 1, by go_num, by omega, by rw [E1.out]; simp [c3], rfl⟩
              · have c2b : (Y == X) = false := by simpa using c2
                go_wp2_with fail
                go_roundg k
                case measure => omega
                case rel => exact ⟨j + 1, by go_num, by omega, by rw [E1.out]; simp [show ¬ Y < X from by omega, c2], rfl⟩
        · obtain rfl : j = n := by omega
          have hr1 := Ism.rank_lt xs i (by rw [HL.out]; exact hi)
          rw [HL.out] at hr1
          have er : Ism.cnt xs i j = Ism.rank xs i := by unfold Ism.rank; rw [HL.out]
          have hst := hown.stored (Ism.rank xs i) (.int .i64 X)
          have hnext : (wr.setCell ⟨w.heap.size, Ism.rank xs i, none⟩ (.int .i64 X)).ownsRow w.heap.size 2 1 (.slice (some ⟨w.heap.size, 0, none⟩) j j) j ((Ism.outAt xs (i + 1)).map (Value.int .i64)) := by
            show World.ownsRow _ _ _ _ _ _ (((Ism.outAt xs i).set (Ism.rank xs i) (xs.getD i 0)).map (Value.int .i64))
            rw [HX.out, List.map_set]
            exact hst.1
          have hfz := hown.frozenAt (Ism.rank xs i)
          have hce := hown.cellAt (Ism.rank xs i) (by omega)
          rw [map_at _ _ _ (by rw [Ism.outAt_length, HL.out]; exact hr1)] at hce
          rw [er]
          generalize Ism.rank xs i = R at *
          have HN := Lib.hid hnext
          clear hst hnext er hci
          cases g1 with
          | zero => omega
          | succ k =>
            go_wp2_with fail
            go_roundg k
            case measure => omega
            case rel => exact ⟨i + 1, by go_num, by omega, HN.out, hbel.setCell (Nat.le_refl _) _⟩
    · obtain rfl : i = n := by omega
      go_wp2_with fail
      go_ret
      refine ⟨_, rfl, ?_, hbel⟩
      have := Sl.of_owns hown
      unfold Ism.sorted
      rw [HL.out]
      exact this
end Go.Proofs.Ytgalbnppeboonaa
