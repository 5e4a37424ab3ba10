/- The walks of spec.AVFind and spec.avWithout. -/
import Derived.Test.YtidekgmpbcnfmaaAvAll
namespace Go.Proofs.Ytidekgmpbcnfmaa
set_option linter.unusedVariables false
open Go.RowKit Avm

theorem aes_snoc (l : Lst) (i : Nat) (h : i < l.length) : aes (l.take (i + 1)) = aes (l.take i) ++ [[.int .i64 (l.getD i (0, 0)).1, .int .i64 (l.getD i (0, 0)).2]] := by
  rw [List.take_succ_eq_append_getElem h]
  unfold aes
  rw [List.map_append, List.getD_eq_getElem?_getD, List.getElem?_eq_getElem h]
  rfl
theorem look_snoc (l : Lst) (i : Nat) (k : Int) (h : i < l.length) (hn : look (l.take i) k = none) : look (l.take (i + 1)) k = if (l.getD i (0, 0)).1 = k then some (l.getD i (0, 0)).2 else none := by
  unfold look at hn ⊢
  simp only [Option.map_eq_none_iff] at hn
  rw [List.take_succ_eq_append_getElem h, List.find?_append, hn]
  simp only [Option.none_or, List.find?_cons, List.find?_nil, List.getD_eq_getElem?_getD, List.getElem?_eq_getElem h, Option.getD_some]
  by_cases h1 : l[i].1 = k
  · simp [h1]
  · rw [show (l[i].1 == k) = false by rw [beq_eq_false_iff_ne]; exact h1, if_neg h1]
    rfl
theorem look_take (l : Lst) (i : Nat) (k v : Int) (h : look (l.take i) k = some v) : look l k = some v := by
  have e := List.take_append_drop i l
  unfold look at h ⊢
  rw [← e, List.find?_append]
  cases hq : (l.take i).find? (fun x => x.1 == k) with
  | none => rw [hq] at h; cases h
  | some x => rw [hq] at h; simpa using h
theorem delS_snoc (l : Lst) (i : Nat) (k : Int) (h : i < l.length) : delS (l.take (i + 1)) k = if (l.getD i (0, 0)).1 = k then delS (l.take i) k else delS (l.take i) k ++ [l.getD i (0, 0)] := by
  unfold delS
  rw [List.take_succ_eq_append_getElem h, List.filter_append, List.getD_eq_getElem?_getD, List.getElem?_eq_getElem h, Option.getD_some]
  by_cases h1 : l[i].1 = k
  · simp [h1]
  · simp [h1]

def FindLoop (l : Lst) (key : Int) (n G : Nat) (w : World) (k : Nat) (idx : Value) (wr : World) : Prop :=
  ∃ (j : Nat), idx = .int .i64 (j : Int) ∧ j + k = n ∧ look (l.take j) key = none ∧ Blk wr G 25 #[.int .i64 0, .int .i64 0] ∧ Below G w wr

set_option maxRecDepth 100000 in
set_option maxHeartbeats 2000000 in
theorem avfind_any (v : Value) (l : Lst) (key : Int) (w : World) (hv : Rw 2 w v (aes l)) (hn : l.length ≤ 100000) :
    Calls Try.prog 13 #[v, .int .i64 key] w fun e w' => e = .returned (.tuple #[.agg #[.int .i64 (oget (kvO key (look l key))).1, .int .i64 (oget (kvO key (look l key))).2], .bool (kvO key (look l key)).isSome]) ∧ Below w.heap.size w w' := by
  obtain ⟨a, n, cap, rfl, hl, hc, hm, hr⟩ := hv
  rw [aes_len] at hl
  have HR := Lib.hid hr
  have HN := Lib.hid hl
  have k0 := Lib.hid (Blk.new w 25 #[.int .i64 0, .int .i64 0])
  have hal := Lib.hid ((Below.refl w.heap.size w).alloc (Nat.le_refl _) (.cells #[.int .i64 0, .int .i64 0] 25))
  obtain ⟨G, hG⟩ : ∃ G, w.heap.size = G := ⟨_, rfl⟩
  rw [hG] at k0 hal ⊢
  have HG := Lib.hid hG
  rw [hl] at hn
  clear hl hr hm hc
  go_enter Try.func13, Try.ntmps13
  go_wp2_with fail
  clear hG
  go_loopg [7, 10] n (fun k s7 idx wr => FindLoop l key n G w k idx wr)
  case atStart => exact ⟨0, rfl, by omega, rfl, k0.out, hal.out⟩
  case round =>
    clear k0 hal
    obtain ⟨j, rfl, hjk, hno, hres, hbel⟩ := hrel
    have HNO := Lib.hid hno
    have HRES := Lib.hid hres
    have HB := Lib.hid hbel
    have hGlt := hres.lt
    by_cases hj : j < n
    · obtain ⟨b, off, rfl, hcell⟩ := HR.out (by omega)
      have ha := aes_at l j (by rw [HN.out]; exact hj)
      have e0 := hcell j _ ha 0 _ rfl
      have e1 := hcell j _ ha 1 _ rfl
      rw [← hbel.cell (by rw [← HG.out]; exact World.block_lt_of_cell? w _ e0)] at e0
      rw [← hbel.cell (by rw [← HG.out]; exact World.block_lt_of_cell? w _ e1)] at e1
      have hls := look_snoc l j key (by rw [HN.out]; exact hj) hno
      obtain ⟨k0, hk0⟩ : ∃ x, (l.getD j (0, 0)).1 = x := ⟨_, rfl⟩
      obtain ⟨v0, hv0⟩ : ∃ x, (l.getD j (0, 0)).2 = x := ⟨_, rfl⟩
      rw [hk0] at e0
      rw [hv0] at e1
      rw [hk0, hv0] at hls
      have HLS := Lib.hid hls
      have e0' : wr.cell? ⟨b, off + j * 2, none⟩ = some (.int .i64 k0) := by simpa using e0
      have e1' : wr.cell? ⟨b, off + j * 2 + 1, none⟩ = some (.int .i64 v0) := by rw [Nat.add_assoc]; exact e1
      have i1 : (j : Int) < (n : Int) := by omega
      have i2 : (0 : Int) ≤ (j : Int) := by omega
      have g0 := hres.cell 0 rfl
      have g1 := hres.cell 1 rfl
      have f0 := hres.free 0
      have f1 := hres.free 1
      have hne : ¬ wr.heap.size = G := by omega
      have hne2 : ¬ G = wr.heap.size := by omega
      clear hno hres hbel hcell ha e0 e1 hls hk0 hv0
      by_cases hk : k0 = key
      · subst hk
        have HF := Lib.hid (show look l k0 = some v0 from look_take l (j + 1) k0 v0 (by rw [HLS.out, if_pos rfl]))
        clear HLS
        go_wp2_with fail
        refine bodyPost_ret (v := .tuple #[.agg #[.int .i64 k0, .int .i64 v0], .bool true]) (by simp [results, Try.results13, go_sem, *]) rfl ?_
        refine ⟨by rw [HF.out]; rfl, ?_⟩
        exact (((HB.out.setCell (Nat.le_refl _) _).setCell (Nat.le_refl _) _)).alloc (by simp only [World.size_setCell]; omega) _
      · cases gk with
        | zero => omega
        | succ k =>
          have hk2 : (k0 == key) = false := by rw [beq_eq_false_iff_ne]; exact hk
          go_wp2_with fail
          go_roundg k
          case measure => omega
          case rel => exact ⟨j + 1, by go_num, by omega, by rw [HLS.out, if_neg hk], HRES.out.alloc _, HB.out.alloc (by omega) _⟩
    · obtain rfl : j = n := by omega
      rw [List.take_of_length_le (by rw [HN.out]; exact Nat.le_refl _)] at HNO
      have g0 := hres.cell 0 rfl
      have g1 := hres.cell 1 rfl
      have f0 := hres.free 0
      have f1 := hres.free 1
      clear hno hres hbel
      go_wp2_with fail
      refine bodyPost_ret (v := .tuple #[.agg #[.int .i64 0, .int .i64 0], .bool false]) (by simp [results, Try.results13, go_sem, *]) rfl ?_
      refine ⟨by rw [HNO.out]; rfl, ?_⟩
      exact (HB.out.setCell (Nat.le_refl _) _).setCell (Nat.le_refl _) _

def WoutLoop (l : Lst) (key : Int) (n G : Nat) (w : World) (k : Nat) (s5 idx : Value) (wr : World) : Prop :=
  ∃ (j m : Nat) (q : Option Addr) (c : Nat), s5 = .slice q m c ∧ idx = .int .i64 (j : Int) ∧ j + k = n ∧ m = (delS (l.take j) key).length ∧ wr.ownsRow G 25 2 (.slice q m c) m (aes (delS (l.take j) key)).flatten ∧ Below G w wr

end Go.Proofs.Ytidekgmpbcnfmaa
