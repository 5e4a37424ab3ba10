/- The walk of the law FnISGrows: it returns true at every input. -/
import Derived.Test.YtepjailijekepaaIsGrow
namespace Go.Proofs.Ytepjailijekepaa
set_option linter.unusedVariables false
open Go.RowKit Go.Sort Go.Lib

def GrowRel (xs : List Int) (w : World) (n k : Nat) (own idx : Value) (wr : World) : Prop :=
  ∃ i : Nat, idx = .int .i64 (i : Int) ∧ i + k = n ∧ (∃ a m c, own = .slice a m c ∧ Sl wr (.slice a m c) ((grown (xs.take i)).map (Value.int .i64))) ∧ Below w.heap.size w wr

theorem take_nextG (xs : List Int) (i : Nat) (h : i < xs.length) : xs.take (i + 1) = xs.take i ++ [xs.getD i 0] := by
  rw [List.take_succ_eq_append_getElem h]; simp [h]

/-- slices.Compact at a slice of no element -/
theorem compact_none (a : Option Addr) (cap : Nat) (w : World) : Calls Try.prog 10 #[.slice a 0 cap] w fun e w' => e = .returned (.slice a 0 cap) ∧ w = w' := by
  go_enter Try.func10, Try.ntmps10
  go_wp2_with fail
  go_ret
  exact ⟨rfl, rfl⟩
theorem equal_none (a b : Option Addr) (c d : Nat) (w : World) : Calls Try.prog 9 #[.slice a 0 c, .slice b 0 d] w fun e w' => e = .returned (.bool true) ∧ w = w' := by
  go_enter Try.func9, Try.ntmps9
  go_wp2_with fail
  go_loopg [13] 0 (fun k idx wr => idx = .int .i64 0 ∧ wr = w)
  case atStart => exact ⟨rfl, rfl⟩
  case round =>
    obtain ⟨rfl, rfl⟩ := hrel
    go_wp2_with fail
    go_ret
    exact ⟨rfl, rfl⟩

theorem compacted_any (B : Nat) (a : Option Addr) (n cap : Nat) (ys : List Int) (w : World) (hown : w.ownsRow B 2 1 (.slice a n cap) n (ys.map (Value.int .i64))) (hn : n ≤ 100000) (hsz : B ≤ w.heap.size) :
    Calls Try.prog 10 #[.slice a n cap] w fun e w' => ∃ v', e = .returned v' ∧ Sl w' v' ((compactUpTo ys.toArray ys.length).map (Value.int .i64)) ∧ Below B w w' := by
  have hl : ys.length = n := by have := hown.1; simpa using this
  by_cases h0 : n = 0
  · subst h0
    obtain rfl : ys = [] := List.eq_nil_of_length_eq_zero hl
    exact (compact_none a cap w).mono fun e w' ⟨h1, h2⟩ => ⟨_, h1, h2 ▸ by simpa [compactUpTo] using Sl.of_owns hown, h2 ▸ Below.refl _ _⟩
  · have hsl := Sl.of_owns hown
    rcases hown.2 with ⟨e, h⟩ | ⟨g, cap', cur, e, hbg, hg, hc1, hc2, hc3, hc4⟩
    · omega
    injection e with e1 e2 e3
    subst e1 e3
    rw [Nat.mul_one] at hc4
    have hH : Holds (Value.int .i64) w g 0 ys.toArray := holds_of_blockI hg (by rw [hl]; exact hc4)
    have hcl : (compactUpTo ys.toArray ys.length).length ≤ ys.length := by
      unfold compactUpTo
      rw [List.length_map]
      exact Nat.le_trans (List.length_filter_le _ _) (by simp)
    have hb := Try.slices_Compact (Value.int .i64) (fun _ => rfl) (EqlAt.int _ _ _) (NeqAt.int _ _ _) 0 (fun _ => by kernel_rfl) g 0 cap ys.toArray w hH (by simp; omega) (by simp; omega)
    have e4 : ys.toArray.size = n := by simpa using hl
    rw [e4] at hb
    refine hb.mono fun e w' ⟨h1, q, h2⟩ => ?_
    rw [← hl] at h1 h2
    obtain ⟨C, hC⟩ : ∃ C, C = compactUpTo ys.toArray ys.length := ⟨_, rfl⟩
    rw [← hC] at h1 h2 hcl
    rw [← hC]
    have hlen : (C ++ List.replicate (ys.length - C.length) (0 : Int)).length = ys.length := by simp; omega
    have h3 := ownsRow_sortedI (w := w) (base := B) (n := q) (os := #[]) (e := 2) (cap := cap) (cur := cur) (ss := ys) (ts := C ++ List.replicate (ys.length - C.length) (0 : Int)) hlen hbg hg (by omega) hc2 hc3
    have h4 := grownBy_sortedI (w := w) (g := g) (n := q) (os := #[]) (C ++ List.replicate (ys.length - C.length) (0 : Int)).toArray
    have e5 : grow (putRow (Value.int .i64) (Sort.ahead w q) g 0 (C ++ List.replicate (ys.length - C.length) (0 : Int)).toArray) #[] = w' := by rw [h2]; unfold grow; rw [Array.append_empty]
    rw [e5] at h3 h4
    refine ⟨_, h1, ⟨some ⟨g, 0, none⟩, C.length, cap, rfl, by simp, by omega, hc2, fun _ => ⟨g, 0, rfl, fun i u hu => ?_⟩⟩, (Below.refl _ _).grown h4 hsz (fun k e => by injection e with e; omega)⟩
    have := h3.cells (g := g) rfl i u (by rw [List.map_append, List.getElem?_append_left (by simpa using (List.getElem?_eq_some_iff.1 hu).1)]; exact hu)
    rw [addr_add] at this
    simpa using this

theorem equal_any (v1 v2 : Value) (xs : List Int) (w : World) (h1 : Sl w v1 (xs.map (Value.int .i64))) (h2 : Sl w v2 (xs.map (Value.int .i64))) (hn : xs.length ≤ 100000) :
    Calls Try.prog 9 #[v1, v2] w fun e w' => e = .returned (.bool true) ∧ Below w.heap.size w w' := by
  obtain ⟨a, n, c, rfl, hl, hc, hm, hr⟩ := h1
  obtain ⟨a2, n2, c2, rfl, hl2, hc2, hm2, hr2⟩ := h2
  have e1 := len_map xs _ _ hl
  have e2 := len_map xs _ _ hl2
  obtain rfl : n = n2 := by omega
  by_cases h0 : n = 0
  · subst h0
    exact (equal_none a a2 c c2 w).mono fun e w' ⟨h1, h2⟩ => ⟨h1, h2 ▸ Below.refl _ _⟩
  · obtain ⟨b, o, rfl, hcell⟩ := hr (by omega)
    obtain ⟨b2, o2, rfl, hcell2⟩ := hr2 (by omega)
    refine (Try.slices_Equal_int_f9 b o n c b2 o2 n c2 xs xs w (by omega) (by omega) (by omega) (by omega) (fun j hj => hcell j _ (map_at xs _ j hj)) (fun j hj => hcell2 j _ (map_at xs _ j hj))).mono fun e w' ⟨h1, q, h2⟩ => ?_
    exact ⟨by rw [h1]; simp, h2 ▸ below_drewN (Below.refl _ _) q⟩

set_option maxHeartbeats 1000000 in
theorem law_isgrows (v : Value) (w : World) (hv : IsInts .i64 w v) :
    Calls Try.prog 3 #[v] w fun e w' => e = .returned (.bool true) ∧ Below w.heap.size w w' := by
  obtain ⟨xs, hsl, hwf⟩ := hv
  have hvv := hsl
  obtain ⟨a, n, cap, rfl, hl, hc, hm, hr⟩ := hvv
  have hxl := len_map xs _ n hl
  have HV := Lib.hid hsl
  have HL := Lib.hid hxl
  clear hsl hl hwf
  have hm2 : (n : Int) ≤ 9223372036854775807 := by unfold maxLen at hm; omega
  clear hm
  by_cases h1 : 2147483647 < (n : Int)
  · clear hr hxl
    go_enter Try.func3, Try.ntmps3
    go_wp2_with fail
    go_ret
    exact ⟨rfl, Below.refl _ _⟩
  by_cases h2 : 40 < (n : Int)
  · clear hr hxl
    go_enter Try.func3, Try.ntmps3
    go_wp2_with fail
    go_ret
    exact ⟨rfl, Below.refl _ _⟩
  have hn40 : n ≤ 40 := by omega
  clear hxl
  go_enter Try.func3, Try.ntmps3
  go_wp2_with fail
  go_loopg [3, 14] n (fun k own idx wr => GrowRel xs w n k own idx wr)
  case atStart => exact ⟨0, rfl, by omega, ⟨none, 0, 0, rfl, Sl.nil _⟩, Below.refl _ _⟩
  case round =>
    obtain ⟨i, rfl, hik, ⟨a2, m2, c2, rfl, hown⟩, hbel⟩ := hrel
    have hgl := grown_len (xs.take i)
    have htl : (xs.take i).length ≤ 40 := by rw [List.length_take]; omega
    have hord := (grown_asc (xs.take i)).ordered
    have HO := Lib.hid hown
    have HR := Lib.hid hord
    clear hown hord
    by_cases hi : i < n
    · obtain ⟨bl, off, rfl, hcell⟩ := hr (by omega)
      have hci := hcell i _ (map_at xs _ i (by rw [HL.out]; exact hi))
      rw [← hbel.cell (World.block_lt_of_cell? w _ hci)] at hci
      have e1 := take_nextG xs i (by rw [HL.out]; exact hi)
      obtain ⟨X, hX⟩ : ∃ X, xs.getD i 0 = X := ⟨_, rfl⟩
      rw [hX] at hci e1
      have e2 : grown (xs.take (i + 1)) = insI X (grown (xs.take i)) := by rw [e1, grown_snoc]
      have e3 : decide (X ∈ insI X (grown (xs.take i))) = true := by simp [insI_mem]
      have hord2 := (insI_asc (grown_asc (xs.take i)) X).ordered
      have hil := insI_len X (grown (xs.take i))
      generalize grown (xs.take i) = G at hgl HO HR e2 e3 hord2 hil
      have E2 := Lib.hid e2
      have E3 := Lib.hid e3
      have H2 := Lib.hid hord2
      clear hcell hr e1 hX e2 e3 hord2
      cases gk with
      | zero => omega
      | succ k =>
        go_wp2_with fail
        refine (is_insert_any _ G X _ HO.out (by omega) HR.out).mono ?_
        rintro e w1 ⟨v1, rfl, hs1, hb1⟩
        have hvv : ∃ a n cap, v1 = .slice a n cap := by obtain ⟨a, n, cap, rfl, _⟩ := hs1; exact ⟨a, n, cap, rfl⟩
        obtain ⟨a3, m3, c3, rfl⟩ := hvv
        have HS := Lib.hid hs1
        clear hs1
        go_wp2_with fail
        refine (is_exists_any _ _ X _ HS.out (by omega) H2.out).mono ?_
        rintro e w2 ⟨rfl, hb2⟩
        rw [E3.out]
        go_wp2_with fail
        go_roundg k
        case measure => omega
        case rel => exact ⟨i + 1, by go_num, by omega, ⟨_, _, _, rfl, by rw [E2.out]; exact HS.out.below rfl hb2⟩, hbel.trans ((hb1.mono hbel.size).trans (hb2.mono (Nat.le_trans hbel.size hb1.size)))⟩
    · obtain rfl : i = n := by omega
      have et : xs.take i = xs := List.take_of_length_le (by rw [HL.out]; exact Nat.le_refl _)
      rw [et] at HO HR hgl
      clear hr et
      go_wp2_with fail
      refine (issort_any _ xs _ (HV.out.below rfl hbel) (by rw [HL.out]; omega)).mono ?_
      rintro e w1 ⟨a3, m3, c3, ys, rfl, hm3, hso, hown3, hb1⟩
      rw [HL.out] at hm3
      subst hm3
      have hyl : ys.length = m3 := by rw [hso.1.length_eq, HL.out]
      have hcg := compact_grown xs ys hso
      rw [hyl] at hcg
      have HC := Lib.hid hcg
      have HY := Lib.hid hyl
      have HW := Lib.hid hown3
      have HS := Lib.hid hso
      have HOO := Lib.hid (HO.out.below rfl hb1)
      clear hyl hcg hown3 hso
      go_wp2_with fail
      refine (compacted_any wr.heap.size _ _ _ ys _ HW.out (by omega) hb1.size).mono ?_
      rintro e w2 ⟨v2, rfl, hs2, hb2⟩
      rw [HY.out, HC.out] at hs2
      have hb12 := hb1.trans hb2
      have HS2 := Lib.hid hs2
      have hvv : ∃ a n cap, v2 = .slice a n cap := by obtain ⟨a, n, cap, rfl, _⟩ := hs2; exact ⟨a, n, cap, rfl⟩
      obtain ⟨a4, m4, c4, rfl⟩ := hvv
      clear hs2
      go_wp2_with fail
      refine (equal_any _ _ _ _ (HO.out.below rfl hb12) HS2.out (by have := HL.out; omega)).mono ?_
      rintro e w3 ⟨rfl, hb3⟩
      go_wp2_with fail
      go_ret
      exact ⟨rfl, hbel.trans ((hb12.mono hbel.size).trans (hb3.mono (Nat.le_trans hbel.size hb12.size)))⟩
end Go.Proofs.Ytepjailijekepaa
