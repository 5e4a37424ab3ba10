/- Walks of spec: pqFind, PQHas, PQLeast. -/
import Derived.Test.YtepjailijekepaaDoorPqRun
import Derived.Test.YtepjailijekepaaDoorApCut
namespace Go.Proofs.YtepjailijekepaaDoor
set_option linter.unusedVariables false
open Go.RowKit
open Pqm

theorem eq_pqit (a1 a2 b1 b2 : Int) (c : Bool) (hc : decide ((a1, a2) = (b1, b2)) = c) (w : World) : (binOp .eql 45 (.agg #[.int .i64 a1, .int .i64 a2]) (.agg #[.int .i64 b1, .int .i64 b2])).run Tryd.prog w = .ok (.bool c) w := by
  rw [run_eql_struct, show (10000 : Nat) = 9998 + 1 + 1 from rfl, eqf_pqit 9998 (a1, a2) (b1, b2) w, hc]
  rfl

theorem Rw.pit {w : World} {b off n cap : Nat} {l : List It} (h : Rw 2 w (.slice (some ⟨b, off, none⟩) n cap) (pits l)) (i : Nat) (x1 x2 : Int) (hi : i < l.length) (hx : l.getD i dI = (x1, x2)) :
    w.cell? ⟨b, off + i * 2, none⟩ = some (.int .i64 x1) ∧ w.cell? ⟨b, off + i * 2 + 1, none⟩ = some (.int .i64 x2) := by
  obtain ⟨a, n', c', e, hn, hc, hm, hr⟩ := h
  injection e with e1 e2 e3
  subst e2
  rw [pits_len] at hn
  obtain ⟨b', off', e4, hcell⟩ := hr (by omega)
  rw [← e1] at e4
  injection e4 with e4
  injection e4 with e4 e5
  subst e4; subst e5
  have hrow := pits_at l i hi
  rw [hx] at hrow
  have d0 := hcell i _ hrow 0 (.int .i64 x1) rfl
  have d1 := hcell i _ hrow 1 (.int .i64 x2) rfl
  rw [Nat.add_zero] at d0
  rw [← Nat.add_assoc] at d1
  exact ⟨d0, d1⟩
theorem Rw.some {S : Nat} {w : World} {a : Option Addr} {n cap : Nat} {rows : List (List Value)} (h : Rw S w (.slice a n cap) rows) : rows.length = n ∧ n ≤ cap ∧ cap ≤ maxLen ∧ (0 < n → ∃ b off, a = some ⟨b, off, none⟩) := by
  obtain ⟨a', n', c', e, hn, hc, hm, hr⟩ := h
  injection e with e1 e2 e3
  subst e1; subst e2; subst e3
  exact ⟨hn, hc, hm, fun h0 => by obtain ⟨b, off, e, _⟩ := hr h0; exact ⟨b, off, e⟩⟩

def FindLoop (n : Nat) (l : List It) (x : It) (w : World) (k : Nat) (idx : Value) (wr : World) : Prop :=
  ∃ i : Nat, idx = .int .i64 (i : Int) ∧ i + k = n ∧ x ∉ l.take i ∧ Below w.heap.size w wr

theorem getD_it (l : List It) (i : Nat) (h : i < l.length) : l[i]? = Option.some (l.getD i dI) := by
  rw [List.getD_eq_getElem?_getD, List.getElem?_eq_getElem h]; rfl
theorem erase_at (l : List It) (i : Nat) (x : It) (h : i < l.length) (hx : l.getD i dI = x) (hno : x ∉ l.take i) : l.erase x = l.take i ++ l.drop (i + 1) := by
  have e : l = l.take i ++ x :: l.drop (i + 1) := by
    have h1 := (List.take_append_drop i l).symm
    rw [List.drop_eq_getElem_cons h] at h1
    have h2 : l[i] = x := by rw [← hx, List.getD_eq_getElem?_getD, List.getElem?_eq_getElem h]; rfl
    rw [h2] at h1
    exact h1
  have h3 : (l.take i ++ x :: l.drop (i + 1)).erase x = l.take i ++ l.drop (i + 1) := by
    rw [List.erase_append_right _ hno]
    simp
  rw [← e] at h3
  exact h3

set_option maxRecDepth 100000 in
set_option maxHeartbeats 1000000 in
theorem pqfind_any (l : List It) (x : It) (v : Value) (w : World) (hv : Rw 2 w v (pits l)) (h9 : l.length ≤ 100000) :
    Calls Tryd.prog 15 #[v, .agg #[.int .i64 x.1, .int .i64 x.2]] w fun e w' => ((x ∉ l ∧ e = .returned (.int .i64 (-1))) ∨ ∃ i : Nat, i < l.length ∧ l.getD i dI = x ∧ x ∉ l.take i ∧ e = .returned (.int .i64 (i : Int))) ∧ Below w.heap.size w w' := by
  obtain ⟨a, n, cap, rfl, _⟩ := id hv
  have hsm := hv.some
  rw [pits_len] at hsm
  obtain ⟨hla, hc, hm, hr⟩ := hsm
  have hn9 : n ≤ 100000 := by omega
  obtain ⟨x1, x2⟩ := x
  have HV := Lib.hid hv
  have HL := Lib.hid hla
  clear hv hla h9
  go_enter Tryd.func15, Tryd.ntmps15
  go_wp2_with fail
  have hW : Below w.heap.size w (w.alloc (.cells #[.int .i64 x1, .int .i64 x2] 45)) := (Below.refl _ _).alloc (Nat.le_refl _) _
  have hX0 := Blk.new w 45 #[.int .i64 x1, .int .i64 x2]
  obtain ⟨wB, hwB⟩ : ∃ wB, w.alloc (.cells #[.int .i64 x1, .int .i64 x2] 45) = wB := ⟨_, rfl⟩
  rw [hwB] at hW hX0 ⊢
  have hzB : wB.heap.size = w.heap.size + 1 := by rw [← hwB]; simp
  have HW := Lib.hid hW
  have HX0 := Lib.hid hX0
  have HZ := Lib.hid hzB
  clear hwB hW hX0 hzB
  go_loopg [9] n (fun k idx wr => FindLoop n l (x1, x2) wB k idx wr)
  case atStart => exact ⟨0, rfl, by omega, by simp, Below.refl _ _⟩
  case round =>
    obtain ⟨i, rfl, hik, hno, hbel⟩ := hrel
    have HNO := Lib.hid hno
    have HB := Lib.hid hbel
    have hxr := HX0.out.below hbel (by rw [HZ.out]; omega)
    have q0 : wr.cell? ⟨w.heap.size, 0, none⟩ = some (.int .i64 x1) := hxr.cell 0 rfl
    have q1 : wr.cell? ⟨w.heap.size, 1, none⟩ = some (.int .i64 x2) := hxr.cell 1 rfl
    have hsz := hbel.size
    clear hno hbel
    by_cases hi : i < n
    · cases gk with
      | zero => omega
      | succ k =>
        obtain ⟨b1, o1, rfl⟩ := hr (by omega)
        obtain ⟨⟨y1, y2⟩, hY⟩ : ∃ Y, l.getD i dI = Y := ⟨_, rfl⟩
        obtain ⟨d0, d1⟩ := HV.out.pit i y1 y2 (by rw [HL.out]; exact hi) hY
        have hWr := HW.out.trans (HB.out.mono HW.out.size)
        rw [← hWr.cell (World.block_lt_of_cell? w _ d0)] at d0
        rw [← hWr.cell (World.block_lt_of_cell? w _ d1)] at d1
        have HWR := Lib.hid hWr
        have HY := Lib.hid hY
        have hbz : Below wr.heap.size wr (wr.alloc (.cells #[.int .i64 y1, .int .i64 y2] 45)) := (Below.refl _ _).alloc (Nat.le_refl _) _
        have hxz := hxr.below hbz hxr.lt
        have z0 : (wr.alloc (.cells #[.int .i64 y1, .int .i64 y2] 45)).cell? ⟨w.heap.size, 0, none⟩ = some (.int .i64 x1) := hxz.cell 0 rfl
        have z1 : (wr.alloc (.cells #[.int .i64 y1, .int .i64 y2] 45)).cell? ⟨w.heap.size, 1, none⟩ = some (.int .i64 x2) := hxz.cell 1 rfl
        have HBZ := Lib.hid hbz
        clear hr hY hWr hbz hxz hxr
        by_cases hxy : (x1, x2) = (y1, y2)
        · have heq := eq_pqit x1 x2 y1 y2 true (by simpa using hxy)
          have HXY := Lib.hid hxy
          clear hxy
          go_wp2_with fail
          go_ret
          exact ⟨.inr ⟨i, by rw [HL.out]; exact hi, by rw [HY.out]; exact HXY.out.symm, HNO.out, rfl⟩, HWR.out.trans (HBZ.out.mono HWR.out.size)⟩
        · have heq := eq_pqit x1 x2 y1 y2 false (by simpa using hxy)
          have HXY := Lib.hid hxy
          clear hxy
          go_wp2_with fail
          go_roundg k
          case measure => omega
          case rel =>
            refine ⟨i + 1, by go_num, by omega, ?_, HB.out.trans (HBZ.out.mono hsz)⟩
            rw [take_getI l i (by rw [HL.out]; exact hi), HY.out]
            intro h
            rcases List.mem_append.1 h with h | h
            · exact HNO.out h
            · exact HXY.out (by simpa using h)
    · obtain ⟨I, hI⟩ : ∃ I, I = n := ⟨_, rfl⟩
      obtain rfl : i = I := by omega
      subst hI
      have hd : decide ((i : Int) < (i : Int)) = false := by simp
      go_wp2_with fail
      go_ret
      have h1 := HNO.out
      rw [List.take_of_length_le (by rw [HL.out]; exact Nat.le_refl _)] at h1
      exact ⟨.inl ⟨h1, rfl⟩, HW.out.trans (HB.out.mono HW.out.size)⟩
end Go.Proofs.YtepjailijekepaaDoor
