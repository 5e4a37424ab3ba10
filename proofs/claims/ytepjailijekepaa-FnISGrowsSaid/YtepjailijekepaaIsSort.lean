/- Walks of Int64Slice's Len, Less, Swap and Sort, and of impl.ISSort: by the shelf's contract of sort.Sort. -/
import Derived.Test.YtepjailijekepaaIsSearch
import Derived.Test.YtepjailijekepaaShelf
import Derived.Sort.OwnSortedInts
import Derived.RegionTactic
namespace Go.Proofs.Ytepjailijekepaa
set_option linter.unusedVariables false
open Go.RowKit Go.Sort

theorem islen_any (p : Option Addr) (n c : Nat) (W : World) : LenM Try.prog 139 (.slice p n c) n W := by
  unfold LenM
  go_enter Try.func139, Try.ntmps139
  go_wp2
  go_ret
  exact ⟨rfl, 0, rfl⟩

theorem isless_any (blk off c size : Nat) (W : World) (G : Nat → Int) (hc : ∀ t, t < size → W.cell? ⟨blk, off + t, none⟩ = some (.int .i64 (G t))) (i j : Nat) (hi : i < size) (hj : j < size) (_hsz : size < 4611686018427387904) :
    Calls Try.prog 140 #[.slice (some ⟨blk, off, none⟩) size c, .int .i64 i, .int .i64 j] W fun e w' => e = .returned (.bool (decide (G i < G j))) ∧ ∃ q, w' = W.drewN q := by
  have ci := hc i hi
  have cj := hc j hj
  clear hc
  go_enter Try.func140, Try.ntmps140
  go_wp2
  go_quiet (fail)
  go_wp2
  go_ret
  exact ⟨rfl, _, rfl⟩

theorem isswap_any (blk off c size : Nat) (W : World) (x y : Int) (i j : Nat) (hi : i < size) (hj : j < size) (_hsz : size < 4611686018427387904)
    (ci : W.cell? ⟨blk, off + i, none⟩ = some (.int .i64 x)) (cj : W.cell? ⟨blk, off + j, none⟩ = some (.int .i64 y)) (fi : W.frozen? ⟨blk, off + i, none⟩ = false) (fj : W.frozen? ⟨blk, off + j, none⟩ = false) :
    Calls Try.prog 141 #[.slice (some ⟨blk, off, none⟩) size c, .int .i64 i, .int .i64 j] W fun e w' => e = .returned (.tuple #[]) ∧ ∃ q, w' = ((W.setCell ⟨blk, off + i, none⟩ (.int .i64 y)).setCell ⟨blk, off + j, none⟩ (.int .i64 x)).drewN q := by
  obtain ⟨v', hy'⟩ := cell?_setCell_some (w := W) (p := ⟨blk, off + i, none⟩) (x := .int .i64 y) (q := ⟨blk, off + j, none⟩) cj
  go_enter Try.func141, Try.ntmps141
  go_wp2
  go_region
  all_goals (try go_wp2)
  all_goals go_end0
  all_goals exact ⟨rfl, 1, rfl⟩

theorem reach_len (rv : Value) : Reaches Try.prog 49 rv "Len" 139 := ⟨fun _ => by kernel_rfl, enters_of Try.func139 (by kernel_rfl) rfl⟩
theorem reach_less (rv : Value) : Reaches Try.prog 49 rv "Less" 140 := ⟨fun _ => by kernel_rfl, enters_of Try.func140 (by kernel_rfl) rfl⟩
theorem reach_swap (rv : Value) : Reaches Try.prog 49 rv "Swap" 141 := ⟨fun _ => by kernel_rfl, enters_of Try.func141 (by kernel_rfl) rfl⟩

theorem row_drewN' {w : World} {B : Nat} {e : TypeId} {size : Nat} {v : Value} {n : Nat} {xs : List Value} (h : w.ownsRow B e size v n xs) (q : Nat) : (w.drewN q).ownsRow B e size v n xs := h
theorem tiny_sort (rv : Value) (n : Nat) (hn : n ≤ 1) (w : World) (hlen : LenM Try.prog 139 rv n w) :
    Calls Try.prog 41 #[.iface 49 rv] w fun e w' => e = .returned (.tuple #[]) ∧ ∃ q, w' = w.drewN q :=
  Try.sort_Sort_tiny (α := Int) _ rv _ (reach_len rv) n hn w hlen
theorem full_sort (d : Array Int) (g n cap : Nat) (w : World) (hds : d.size = n) (h1 : ¬ n ≤ 1) (hn : n ≤ 100000) (hH : Holds (Value.int .i64) w g 0 d) (hg : g < w.heap.size) :
    Calls Try.prog 41 #[.iface 49 (.slice (some ⟨g, 0, none⟩) n cap)] w fun e w' => e = .returned (.tuple #[]) ∧ ∃ d' m os, PermIn 0 d.size d d' ∧ SortedIn ltInt 0 d.size d' ∧ w' = grow (putRow (Value.int .i64) (Sort.ahead w m) g 0 d') os := by
  subst hds
  exact Try.sort_Sort_sorted _ _ _ _ _ (reach_len _) (reach_less _) (reach_swap _) (Value.int .i64) ltInt swo_ltInt g 0 d (by omega) (by omega) w (islen_any _ _ _ _)
    (fun m os dk hs i j hi hj => isless_any g 0 cap d.size _ (fun t => dk[t]!) (fun t ht => ((holds_sortWorld (Value.int .i64) w g 0 m d dk os hg hH hs) t (by omega)).1) i j hi hj (by omega))
    (fun W dk hH hs i j hi hj => isswap_any g 0 cap d.size W dk[i]! dk[j]! i j hi hj (by omega) (hH i (by omega)).1 (hH j (by omega)).1 (hH i (by omega)).2 (hH j (by omega)).2) hH hg

/-- a sorted list of the same numbers -/
def Sorted (xs ys : List Int) : Prop := ys.Perm xs ∧ Ordered ys

theorem sorted_of (xs : List Int) (d' : Array Int) (hp : PermIn 0 xs.toArray.size xs.toArray d') (hs : SortedIn ltInt 0 xs.toArray.size d') : Sorted xs d'.toList := by
  obtain ⟨h1, h2, h3⟩ := hp
  have hsz : d'.size = xs.length := by simpa using h1
  refine ⟨?_, fun p q hpq hq => ?_⟩
  · have e1 : d'.extract 0 xs.toArray.size = d' := by simp [← hsz]
    have e2 : xs.toArray.extract 0 xs.toArray.size = xs.toArray := by simp
    rw [e1, e2] at h3
    simpa using h3
  · have hq2 : q < d'.size := by simpa using hq
    have := hs p q (Nat.zero_le _) hpq (by simp; omega)
    unfold ltInt at this
    rw [getElem!_pos d' q hq2, getElem!_pos d' p (by omega)] at this
    simp only [decide_eq_false_iff_not, Int.not_lt] at this
    simpa [List.getD_eq_getElem?_getD, hq2, show p < d'.size from by omega] using this

set_option maxHeartbeats 400000 in
theorem sort_any (B : Nat) (a : Option Addr) (n cap : Nat) (xs : List Int) (w : World) (hown : w.ownsRow B 2 1 (.slice a n cap) n (xs.map (Value.int .i64))) (hn : n ≤ 100000) :
    Calls Try.prog 27 #[.slice a n cap] w fun e w' => e = .returned (.tuple #[]) ∧ ∃ ys, Sorted xs ys ∧ w'.ownsRow B 2 1 (.slice a n cap) n (ys.map (Value.int .i64)) ∧ Below B w w' := by
  have hl : xs.length = n := by have := hown.1; simpa using this
  have HL := Lib.hid hl
  have HW := Lib.hid hown
  clear hown hl
  by_cases h1 : n ≤ 1
  · have hty := (fun w => tiny_sort (.slice a n cap) n h1 w (islen_any a n cap w))
    go_enter Try.func27, Try.ntmps27
    go_wp2_with fail
    refine (hty _).mono ?_
    rintro e w' ⟨rfl, q, rfl⟩
    go_wp2_with fail
    go_end0
    refine ⟨rfl, xs, ⟨List.Perm.refl _, fun p q h2 h3 => ?_⟩, row_drewN' HW.out q, below_drewN (Below.refl _ _) q⟩
    have := HL.out; omega
  · rcases HW.out.2 with ⟨e, h⟩ | ⟨g, cap', cur, e, hbg, hg, hc1, hc2, hc3, hc4⟩
    · omega
    injection e with e1 e2 e3
    subst e1 e3
    rw [Nat.mul_one] at hc4
    have hg2 : g < w.heap.size := (Array.getElem?_eq_some_iff.1 hg).1
    have hH : Holds (Value.int .i64) w g 0 xs.toArray := holds_of_blockI hg (by rw [HL.out]; exact hc4)
    obtain ⟨d, hd⟩ : ∃ d, d = xs.toArray := ⟨_, rfl⟩
    have hds : d.size = n := by rw [hd]; simpa using HL.out
    have hb := full_sort d g n cap w hds h1 hn (hd ▸ hH) hg2
    have HB := Lib.hid hg
    clear hg hH
    go_enter Try.func27, Try.ntmps27
    go_wp2_with fail
    refine hb.mono ?_
    rintro e w' ⟨rfl, d', m, os, hp, hs, rfl⟩
    go_wp2_with fail
    go_end0
    subst hd
    have hso := sorted_of xs d' (by simpa [HL.out] using hp) (by simpa [HL.out] using hs)
    have hdl : d'.toList.length = xs.length := hso.1.length_eq
    have := ownsRow_sortedI (w := w) (base := B) (n := m) (os := os) (e := 2) hdl hbg HB.out (by rw [HL.out]; exact hc1) hc2 hc3
    rw [HL.out] at this
    exact ⟨rfl, d'.toList, hso, by simpa using this, (Below.refl _ _).grown (grownBy_sortedI d') (by omega) (fun k e => by injection e with e; omega)⟩

set_option maxHeartbeats 400000 in
theorem issort_any (v : Value) (xs : List Int) (w : World) (hv : Sl w v (xs.map (Value.int .i64))) (hn : xs.length ≤ 100000) :
    Calls Try.prog 11 #[v] w fun e w' => ∃ a n cap ys, e = .returned (.slice a n cap) ∧ n = xs.length ∧ Sorted xs ys ∧ w'.ownsRow w.heap.size 2 1 (.slice a n cap) n (ys.map (Value.int .i64)) ∧ Below w.heap.size w w' := by
  have hvv : ∃ a n cap, v = .slice a n cap := by obtain ⟨a, n, cap, rfl, _⟩ := hv; exact ⟨a, n, cap, rfl⟩
  obtain ⟨a, n, cap, rfl⟩ := hvv
  have HV := Lib.hid hv
  clear hv
  go_enter Try.func11, Try.ntmps11
  go_wp2_with fail
  refine (ints_any _ xs _ HV.out (by omega)).mono ?_
  rintro e w1 ⟨v', rfl, hown, hb1⟩
  have hsl := Sl.of_owns hown
  have hvv : ∃ a n cap, v' = .slice a n cap := by obtain ⟨a, n, cap, rfl, _⟩ := hsl; exact ⟨a, n, cap, rfl⟩
  obtain ⟨a', n', cap', rfl⟩ := hvv
  have hl := len_map xs _ _ hsl.length
  rw [hl] at hown
  have HL := Lib.hid hl
  have HO := Lib.hid hown
  clear hown hsl hl
  go_wp2_with fail
  refine (sort_any w.heap.size _ _ _ xs _ HO.out (by have := HL.out; omega)).mono ?_
  rintro e w2 ⟨rfl, ys, hs, hown2, hb2⟩
  have HS := Lib.hid hs
  have HW := Lib.hid hown2
  clear hs hown2
  go_wp2_with fail
  go_ret
  exact ⟨_, _, _, ys, rfl, HL.out.symm, HS.out, HW.out, hb1.trans hb2⟩
end Go.Proofs.Ytepjailijekepaa
