/- Walks of spec: PQHas, PQLeast, PQPut, PQTaken. -/
import Derived.Test.YtepjailijekepaaDoorPqSpec
namespace Go.Proofs.YtepjailijekepaaDoor
set_option linter.unusedVariables false
open Go.RowKit
open Pqm

set_option maxRecDepth 100000 in
theorem pqhas_any (l : List It) (x : It) (v : Value) (w : World) (hv : Rw 2 w v (pits l)) (h9 : l.length ≤ 100000) (c : Bool) (hc : decide (x ∈ l) = c) :
    Calls Tryd.prog 13 #[v, .agg #[.int .i64 x.1, .int .i64 x.2]] w fun e w' => e = .returned (.bool c) ∧ Below w.heap.size w w' := by
  obtain ⟨x1, x2⟩ := x
  have hW : Below w.heap.size w (w.alloc (.cells #[.int .i64 x1, .int .i64 x2] 45)) := (Below.refl _ _).alloc (Nat.le_refl _) _
  have HC := Lib.hid (pqfind_any l (x1, x2) v _ (hv.below rfl hW) h9)
  have HW := Lib.hid hW
  have HCC := Lib.hid hc
  have HL9 := Lib.hid h9
  clear hW hv hc h9
  go_enter Tryd.func13, Tryd.ntmps13
  go_wp2_with fail
  refine HC.out.mono ?_
  rintro e w2 ⟨h | ⟨i, hi, hx, hno, h⟩, hb2⟩
  · have hcf : c = false := by rw [← HCC.out]; simpa using h.1
    subst hcf
    obtain rfl := h.2
    have HB2 := Lib.hid hb2
    clear h hb2
    go_wp2_with fail
    go_ret
    exact ⟨rfl, HW.out.trans (HB2.out.mono HW.out.size)⟩
  · have hin : (x1, x2) ∈ l := by
      rw [← hx, List.getD_eq_getElem?_getD, List.getElem?_eq_getElem hi]
      exact List.getElem_mem hi
    have hct : c = true := by rw [← HCC.out]; simpa using hin
    subst hct
    obtain rfl := h
    have HB2 := Lib.hid hb2
    have hi9 : i < 100000 := by have := HL9.out; omega
    clear hb2 hi hx hno hin
    go_wp2_with fail
    go_ret
    exact ⟨rfl, HW.out.trans (HB2.out.mono HW.out.size)⟩

def LeastLoop (n : Nat) (w : World) (k : Nat) (idx : Value) (wr : World) : Prop :=
  ∃ i : Nat, idx = .int .i64 (i : Int) ∧ i + k = n ∧ Below w.heap.size w wr

set_option maxRecDepth 100000 in
set_option maxHeartbeats 1000000 in
theorem pqleast_any (l : List It) (x : It) (v : Value) (w : World) (hv : Rw 2 w v (pits l)) (h9 : l.length ≤ 100000) (hx : x ∈ l) (hmin : ∀ y ∈ l, x.1 ≤ y.1) :
    Calls Tryd.prog 14 #[v, .agg #[.int .i64 x.1, .int .i64 x.2]] w fun e w' => e = .returned (.bool true) ∧ Below w.heap.size w w' := by
  obtain ⟨a, n, cap, rfl, _⟩ := id hv
  have hsm := hv.some
  rw [pits_len] at hsm
  obtain ⟨hla, hc, hm, hr⟩ := hsm
  have hn9 : n ≤ 100000 := by omega
  obtain ⟨x1, x2⟩ := x
  have HV := Lib.hid hv
  have HL := Lib.hid hla
  have HXL := Lib.hid hx
  have HMI := Lib.hid hmin
  have H9 := Lib.hid h9
  clear hv hla h9 hx hmin
  go_enter Tryd.func14, Tryd.ntmps14
  go_wp2_with fail
  have hW : Below w.heap.size w (w.alloc (.cells #[.int .i64 x1, .int .i64 x2] 45)) := (Below.refl _ _).alloc (Nat.le_refl _) _
  have hX0 := Blk.new w 45 #[.int .i64 x1, .int .i64 x2]
  obtain ⟨wB, hwB⟩ : ∃ wB, w.alloc (.cells #[.int .i64 x1, .int .i64 x2] 45) = wB := ⟨_, rfl⟩
  rw [hwB] at hW hX0 ⊢
  have hzB : wB.heap.size = w.heap.size + 1 := by rw [← hwB]; simp
  have HW := Lib.hid hW
  have HX0 := Lib.hid hX0
  have HZ := Lib.hid hzB
  clear hwB hW hX0 hzB
  go_loopg [9] n (fun k idx wr => LeastLoop n wB k idx wr)
  case atStart => exact ⟨0, rfl, by omega, Below.refl _ _⟩
  case round =>
    obtain ⟨i, rfl, hik, hbel⟩ := hrel
    have HB := Lib.hid hbel
    have hxr := HX0.out.below hbel (by rw [HZ.out]; omega)
    have q0 : wr.cell? ⟨w.heap.size, 0, none⟩ = some (.int .i64 x1) := hxr.cell 0 rfl
    have q1 : wr.cell? ⟨w.heap.size, 1, none⟩ = some (.int .i64 x2) := hxr.cell 1 rfl
    have hsz := hbel.size
    clear hbel
    by_cases hi : i < n
    · cases gk with
      | zero => omega
      | succ k =>
        obtain ⟨b1, o1, rfl⟩ := hr (by omega)
        obtain ⟨⟨y1, y2⟩, hY⟩ : ∃ Y, l.getD i dI = Y := ⟨_, rfl⟩
        obtain ⟨d0, d1⟩ := HV.out.pit i y1 y2 (by rw [HL.out]; exact hi) hY
        have hWr := HW.out.trans (HB.out.mono HW.out.size)
        rw [← hWr.cell (World.block_lt_of_cell? w _ d0)] at d0
        rw [← hWr.cell (World.block_lt_of_cell? w _ d1)] at d1
        have hle : x1 ≤ y1 := HMI.out (y1, y2) (by
          have hil : i < l.length := by rw [HL.out]; exact hi
          rw [← hY, List.getD_eq_getElem?_getD, List.getElem?_eq_getElem hil]
          exact List.getElem_mem hil)
        have hlt : decide (y1 < x1) = false := by simp; omega
        have hbz : Below wr.heap.size wr (wr.alloc (.cells #[.int .i64 y1, .int .i64 y2] 45)) := (Below.refl _ _).alloc (Nat.le_refl _) _
        have hxz := hxr.below hbz hxr.lt
        have z0 : (wr.alloc (.cells #[.int .i64 y1, .int .i64 y2] 45)).cell? ⟨w.heap.size, 0, none⟩ = some (.int .i64 x1) := hxz.cell 0 rfl
        have HBZ := Lib.hid hbz
        clear hr hY hWr hbz hxz hxr hle
        go_wp2_with fail
        go_roundg k
        case measure => omega
        case rel => exact ⟨i + 1, by go_num, by omega, HB.out.trans (HBZ.out.mono hsz)⟩
    · obtain ⟨I, hI⟩ : ∃ I, I = n := ⟨_, rfl⟩
      obtain rfl : i = I := by omega
      subst hI
      have hd : decide ((i : Int) < (i : Int)) = false := by simp
      have hWr := HW.out.trans (HB.out.mono HW.out.size)
      have HC := Lib.hid (pqhas_any l (x1, x2) (.slice a i cap) wr (HV.out.below rfl hWr) H9.out true (by simpa using HXL.out))
      have HWR := Lib.hid hWr
      clear hr hWr hxr
      go_wp2_with fail
      refine HC.out.mono ?_
      rintro e w2 ⟨rfl, hb2⟩
      have HB2 := Lib.hid hb2
      clear hb2
      go_wp2_with fail
      go_ret
      exact ⟨rfl, HWR.out.trans (HB2.out.mono HWR.out.size)⟩

def SPutLoop (n : Nat) (q l : List It) (dup : Bool) (w : World) (k : Nat) (out idx : Value) (wr : World) : Prop :=
  ∃ (i : Nat) (pa : Option Addr) (m ca : Nat), out = .slice pa m ca ∧ idx = .int .i64 (i : Int) ∧ i + k = n ∧ m = (putAll dup q (l.take i)).length ∧ wr.ownsRow w.heap.size 45 2 (.slice pa m ca) m (pfl (putAll dup q (l.take i))) ∧ Below w.heap.size w wr

set_option maxRecDepth 100000 in
set_option maxHeartbeats 2000000 in
theorem pqput_any (q l : List It) (dup : Bool) (v u : Value) (w : World) (hv : Rw 2 w v (pits q)) (hu : Rw 2 w u (pits l)) (h9 : q.length + l.length ≤ 100000) :
    Calls Tryd.prog 6 #[v, u, .bool dup] w fun e w' => ∃ pa ca, e = .returned (.slice pa (putAll dup q l).length ca) ∧ Rw 2 w' (.slice pa (putAll dup q l).length ca) (pits (putAll dup q l)) ∧ Below w.heap.size w w' := by
  obtain ⟨a, n, cap, rfl, _⟩ := id hu
  have hsm := hu.some
  rw [pits_len] at hsm
  obtain ⟨hla, hc, hm, hr⟩ := hsm
  have hn9 : n ≤ 100000 := by omega
  have hql : (pits q).length = q.length := pits_len q
  have HQL := Lib.hid hql
  have HV := Lib.hid hv
  have HU := Lib.hid hu
  have HL := Lib.hid hla
  have H9 := Lib.hid h9
  have hq9 : q.length ≤ 100000 := by omega
  have hmx0 : 0 + (pits q).length ≤ maxLen := by unfold maxLen; omega
  have hby0 : (0 + (pits q).length) * 16 ≤ 140737488355328 := by omega
  have HM0 := Lib.hid hmx0
  have HB0 := Lib.hid hby0
  obtain ⟨va, vn, vc, rfl, _⟩ := id hv
  clear hv hu hla h9 hql hmx0 hby0
  go_enter Tryd.func6, Tryd.ntmps6
  go_wp2_with (at_builtin; refine wpList_apRw rfl _ _ 22 rfl w.heap.size 2 45 (.agg #[.int .i64 0, .int .i64 0]) 16 Tryd.underlying22 info_pqit rfl (by decide) (.slice none 0 0) 0 [] rfl (World.ownsRow_nil _ _ _ _) (.slice va vn vc) (pits q) rfl HV.out (pits_row q) (pfl_cells q) HM0.out HB0.out (Nat.le_refl _) ?_; intro p1 m1 c1 w1 hown1 hg1 hb1; have HO1 := Lib.hid hown1; have HB1 := Lib.hid hb1; clear hown1 hg1 hb1)
  have hm1 : m1 = q.length := by have h1 := ownp_len HO1.out; have h2 := HQL.out; omega
  have HM1 := Lib.hid hm1
  clear hm1
  go_loopg [7, 14] n (fun k out idx wr => SPutLoop n q l dup w k out idx wr)
  case atStart => exact ⟨0, p1, m1, c1, rfl, rfl, by omega, by simpa [putAll] using HM1.out, by have h1 := HO1.out; rw [Nat.zero_add, HQL.out, ← HM1.out] at h1; simpa [putAll, pfl] using h1, HB1.out⟩
  case round =>
    obtain ⟨i, pa, m, ca, rfl, rfl, hik, hml, hown, hbel⟩ := hrel
    have HO := Lib.hid hown
    have HB := Lib.hid hbel
    have HML := Lib.hid hml
    have hsz := hbel.size
    have hm9 : m ≤ 100000 := by
      have h1 := putAll_len2 dup q (l.take i)
      have h2 : (l.take i).length ≤ l.length := by rw [List.length_take]; omega
      have h3 := H9.out
      omega
    clear hown hbel hml
    by_cases hi : i < n
    · cases gk with
      | zero => omega
      | succ k =>
        obtain ⟨b1, o1, rfl⟩ := hr (by omega)
        obtain ⟨⟨y1, y2⟩, hY⟩ : ∃ Y, l.getD i dI = Y := ⟨_, rfl⟩
        obtain ⟨d0, d1⟩ := HU.out.pit i y1 y2 (by rw [HL.out]; exact hi) hY
        rw [← HB.out.cell (World.block_lt_of_cell? w _ d0)] at d0
        rw [← HB.out.cell (World.block_lt_of_cell? w _ d1)] at d1
        have ht := take_getI l i (by rw [HL.out]; exact hi)
        rw [hY] at ht
        have HTK := Lib.hid ht
        have hmx : m + 1 ≤ maxLen := by unfold maxLen; omega
        have hbz : Below wr.heap.size wr (wr.alloc (.cells #[.int .i64 y1, .int .i64 y2] 45)) := (Below.refl _ _).alloc (Nat.le_refl _) _
        have hyz := Blk.new wr 45 #[.int .i64 y1, .int .i64 y2]
        have HYZ := Lib.hid hyz
        have HBZ := Lib.hid (HB.out.trans (hbz.mono hsz))
        have HOZ : Hid ((wr.alloc (.cells #[.int .i64 y1, .int .i64 y2] 45)).ownsRow w.heap.size 45 2 (.slice pa m ca) m (pfl (putAll dup q (l.take i)))) := Lib.hid (HO.out.alloc _)
        clear hr hY ht hbz hyz
        cases dup with
        | true =>
          go_wp2_with (at_builtin; refine wpList_appendS rfl _ _ 22 rfl w.heap.size 2 45 (.agg #[.int .i64 0, .int .i64 0]) 16 Tryd.underlying22 info_pqit rfl (by decide) (.slice pa m ca) m _ rfl HOZ.out #[.int .i64 y1, .int .i64 y2] (by exact (slice_new (by simp) : Value.slice (some ⟨wr.heap.size + 1, 0, none⟩) 1 1 = .slice (some ⟨(wr.alloc (.cells #[.int .i64 y1, .int .i64 y2] 45)).heap.size, 0, none⟩) 1 1)) rfl (by simp [Value.oneCell']) hmx (by omega) (by simp; omega) ?_; intro g3 cap3 w3 hown3 hg3 hb3; have HO3 := Lib.hid hown3; have HB3 := Lib.hid hb3; clear hown3 hg3 hb3)
          go_roundg k
          case measure => omega
          case rel =>
            have he : putAll true q (l.take (i + 1)) = putAll true q (l.take i) ++ [(y1, y2)] := by rw [HTK.out, putAll_snoc]; simp
            refine ⟨i + 1, _, m + 1, _, rfl, by go_num, by omega, by rw [he]; simp [HML.out], ?_, HBZ.out.trans HB3.out⟩
            rw [he, pfl_app, pfl_one]
            exact HO3.out
        | false =>
          have hrw : Rw 2 (wr.alloc (.cells #[.int .i64 y1, .int .i64 y2] 45)) (.slice pa m ca) (pits (putAll false q (l.take i))) := Rw.of_owns (pits_row _) (by decide) HOZ.out
          by_cases hin : (y1, y2) ∈ putAll false q (l.take i)
          · have HC := Lib.hid (pqhas_any _ (y1, y2) _ _ hrw (by rw [← HML.out]; exact hm9) true (by simpa using hin))
            have HIN := Lib.hid hin
            clear hin hrw
            go_wp2_with fail
            refine HC.out.mono ?_
            rintro e w2 ⟨rfl, hb2⟩
            have HB2 := Lib.hid hb2
            have hs2 := hb2.size
            clear hb2
            go_wp2_with fail
            go_roundg k
            case measure => omega
            case rel =>
              have he : putAll false q (l.take (i + 1)) = putAll false q (l.take i) := by rw [HTK.out, putAll_snoc]; simp [HIN.out]
              refine ⟨i + 1, pa, m, ca, rfl, by go_num, by omega, by rw [he]; exact HML.out, ?_, HBZ.out.trans (HB2.out.mono (by simp; omega))⟩
              rw [he]
              exact rowp_below HOZ.out HB2.out
          · have HC := Lib.hid (pqhas_any _ (y1, y2) _ _ hrw (by rw [← HML.out]; exact hm9) false (by simpa using hin))
            have HIN := Lib.hid hin
            clear hin hrw
            go_wp2_with fail
            refine HC.out.mono ?_
            rintro e w2 ⟨rfl, hb2⟩
            have hyz2 := HYZ.out.below hb2 (by simp)
            have y0 : w2.cell? ⟨wr.heap.size, 0, none⟩ = some (.int .i64 y1) := hyz2.cell 0 rfl
            have yy1 : w2.cell? ⟨wr.heap.size, 1, none⟩ = some (.int .i64 y2) := hyz2.cell 1 rfl
            have HB2 := Lib.hid hb2
            have hs2 := hb2.size
            have HO2 := Lib.hid (rowp_below HOZ.out hb2)
            simp at hs2
            clear hb2 hyz2
            go_wp2_with (at_builtin; refine wpList_appendS rfl _ _ 22 rfl w.heap.size 2 45 (.agg #[.int .i64 0, .int .i64 0]) 16 Tryd.underlying22 info_pqit rfl (by decide) (.slice pa m ca) m _ rfl HO2.out #[.int .i64 y1, .int .i64 y2] rfl rfl (by simp [Value.oneCell']) hmx (by omega) (by omega) ?_; intro g3 cap3 w3 hown3 hg3 hb3; have HO3 := Lib.hid hown3; have HB3 := Lib.hid hb3; clear hown3 hg3 hb3)
            go_roundg k
            case measure => omega
            case rel =>
              have he : putAll false q (l.take (i + 1)) = putAll false q (l.take i) ++ [(y1, y2)] := by rw [HTK.out, putAll_snoc]; simp [HIN.out]
              refine ⟨i + 1, _, m + 1, _, rfl, by go_num, by omega, by rw [he]; simp [HML.out], ?_, (HBZ.out.trans (HB2.out.mono (by simp; omega))).trans HB3.out⟩
              rw [he, pfl_app, pfl_one]
              exact HO3.out
    · obtain ⟨I, hI⟩ : ∃ I, I = n := ⟨_, rfl⟩
      obtain rfl : i = I := by omega
      subst hI
      have hd : decide ((i : Int) < (i : Int)) = false := by simp
      go_wp2_with fail
      go_ret
      have h1 := HO.out
      have h2 := HML.out
      rw [List.take_of_length_le (by rw [HL.out]; exact Nat.le_refl _)] at h1 h2
      subst h2
      exact ⟨pa, ca, rfl, Rw.of_owns (pits_row _) (by decide) h1, HB.out⟩

end Go.Proofs.YtepjailijekepaaDoor
