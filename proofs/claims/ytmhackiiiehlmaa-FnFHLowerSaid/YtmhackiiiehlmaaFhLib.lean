/- Small calls of the laws on heaps: slices.Sort, Clone and Equal at []int, fhPriorities, fhPut. -/
import Derived.Test.YtmhackiiiehlmaaFhRun
import Derived.Test.YtmhackiiiehlmaaShelf
import Derived.Sort.OwnSortedInts
namespace Go.Proofs.Ytmhackiiiehlmaa
set_option linter.unusedVariables false
open Go.RowKit Go.Sort Go.Lib

abbrev ints (xs : List Int) : List Value := xs.map (Value.int .i64)
theorem ints_at {w : World} {b off : Nat} {xs : List Int} (h : ∀ (i : Nat) (u : Value), (ints xs)[i]? = some u → w.cell? ⟨b, off + i, none⟩ = some u) : ∀ j, j < xs.length → w.cell? ⟨b, off + j, none⟩ = some (.int .i64 (xs.getD j 0)) := fun j hj =>
  h j _ (by rw [List.getElem?_map, List.getElem?_eq_getElem hj, List.getD_eq_getElem?_getD, List.getElem?_eq_getElem hj]; rfl)
theorem sort_any (B : Nat) (a : Option Addr) (n cap : Nat) (ys : List Int) (w : World) (hown : w.ownsRow B 3 1 (.slice a n cap) n (ints ys)) (hsz : B ≤ w.heap.size) (hn : n ≤ 1000) :
    Calls Try.prog 11 #[.slice a n cap] w fun e w' => e = .returned (.tuple #[]) ∧ w'.ownsRow B 3 1 (.slice a n cap) n (ints (ys.mergeSort fun x y => decide (x ≤ y))) ∧ Below B w w' := by
  have hl : ys.length = n := by have := hown.1; simpa using this
  rcases hown.2 with ⟨e, h0⟩ | ⟨g, cap', cur, e, hbg, hg, hc1, hc2, hc3, hc4⟩
  · subst h0
    obtain rfl : ys = [] := List.eq_nil_of_length_eq_zero hl
    refine (Try.slices_Sort_int_none a cap w).mono fun e w' ⟨h1, h2⟩ => ⟨h1, ?_, by rw [h2]; exact Below.refl _ _⟩
    rw [h2, List.mergeSort_nil]; exact hown
  · injection e with e1 e2 e3
    subst e1 e3
    rw [Nat.mul_one] at hc4
    have hH : Holds (Value.int .i64) w g 0 ys.toArray := holds_of_blockI hg (by rw [hl]; exact hc4)
    have hb := Try.slices_Sort_int g 0 cap ys w hH (lt_of_block hg) (by omega)
    rw [hl] at hb
    refine hb.mono fun e w' ⟨h1, q, os, h2⟩ => ⟨h1, ?_, ?_⟩
    · rw [h2]
      have h3 := ownsRow_sortedI (w := w) (base := B) (n := q) (os := os) (e := 3) (cap := cap) (cur := cur) (ss := ys) (ts := ys.mergeSort fun x y => decide (x ≤ y)) (by simp) hbg hg (by omega) hc2 hc3
      rw [hl] at h3
      exact h3
    · have h4 := grownBy_sortedI (w := w) (g := g) (n := q) (os := os) (ys.mergeSort fun x y => decide (x ≤ y)).toArray
      rw [← h2] at h4
      exact (Below.refl _ _).grown h4 hsz (fun k hk => by injection hk with hk; omega)
theorem clone_any (v : Value) (xs : List Int) (w : World) (hv : Sl w v (ints xs)) (hn : xs.length ≤ 1000) :
    Calls Try.prog 10 #[v] w fun e w' => ∃ v', e = .returned v' ∧ w'.ownsRow w.heap.size 3 1 v' xs.length (ints xs) ∧ Below w.heap.size w w' := by
  obtain ⟨a, n, cap, rfl, hl, hc, hm, hr⟩ := hv
  rw [List.length_map] at hl
  subst hl
  cases a with
  | none =>
    have hx : xs = [] := by
      cases xs with
      | nil => rfl
      | cons x xs => obtain ⟨b, off, e, -⟩ := hr (by simp); cases e
    subst hx
    exact (Try.slices_Clone_int_nil 0 cap w).mono fun e w' ⟨h1, h2⟩ => ⟨_, h1, World.ownsRow_nil _ _ _ _, by rw [h2]; exact Below.refl _ _⟩
  | some ad =>
    by_cases h0 : xs.length = 0
    · have hx := List.eq_nil_of_length_eq_zero h0
      subst hx
      exact (Try.slices_Clone_int_zero ad cap w).mono fun e w' ⟨v', h1, h2, _, h3⟩ => ⟨v', h1, h2, h3⟩
    · obtain ⟨b, off, e, hcell⟩ := hr (by omega)
      injection e with e
      subst e
      refine (Try.slices_Clone_int b off xs.length cap xs w (Nat.le_refl _) (by omega) (ints_at hcell)).mono fun e w' h => ?_
      obtain ⟨v', h1, h2, -, h3⟩ := h
      rw [List.take_length] at h2
      exact ⟨v', h1, h2, h3⟩
theorem equal_any (v1 v2 : Value) (xs : List Int) (w : World) (h1 : Sl w v1 (ints xs)) (h2 : Sl w v2 (ints xs)) (hn : xs.length ≤ 1000) :
    Calls Try.prog 12 #[v1, v2] w fun e w' => e = .returned (.bool true) ∧ Below w.heap.size w w' := by
  obtain ⟨a, n, cap, rfl, hl, hc, hm, hr⟩ := h1
  obtain ⟨a2, n2, cap2, rfl, hl2, hc2, hm2, hr2⟩ := h2
  rw [List.length_map] at hl hl2
  subst hl
  subst hl2
  by_cases h0 : xs.length = 0
  · have hb := Try.slices_Equal_int_empty a a2 cap xs.length cap2 w (by omega)
    rw [h0] at hb ⊢
    exact hb.mono fun e w' ⟨h1, h2⟩ => ⟨h1, by rw [h2]; exact Below.refl _ _⟩
  · obtain ⟨b, off, rfl, hcell⟩ := hr (by omega)
    obtain ⟨b2, off2, rfl, hcell2⟩ := hr2 (by omega)
    refine (Try.slices_Equal_int b off xs.length cap b2 off2 xs.length cap2 xs xs w (Nat.le_refl _) (Nat.le_refl _) (by omega) (by omega) (ints_at hcell) (ints_at hcell2)).mono fun e w' ⟨h1, q, h2⟩ => ⟨?_, ?_⟩
    · rw [h1]; simp
    · rw [h2]; exact ⟨rfl, rfl, rfl, Nat.le_refl _, fun _ _ => rfl⟩
def PriosPost (xs : List Int) (least : Int) (e : Ending) : Prop := ∃ b : Bool, e = .returned (.bool b) ∧ (b = true → ∀ p ∈ xs, least ≤ p ∧ p ≤ 1099511627776)
set_option maxRecDepth 100000 in
theorem prios_any (v : Value) (xs : List Int) (least : Int) (w : World) (hv : Sl w v (ints xs)) (hn : xs.length ≤ 1000) :
    Calls Try.prog 5 #[v, .int .i64 least] w fun e w' => PriosPost xs least e ∧ w' = w := by
  obtain ⟨a, n, cap, rfl, hl, hc, hm, hr⟩ := hv
  rw [List.length_map] at hl
  have HL := Lib.hid hl
  have HR := Lib.hid hr
  clear hr
  rw [hl] at hn
  clear hl hc hm
  go_enter Try.func5, Try.ntmps5
  go_wp2_with fail
  go_loopg [9] n (fun kk s9 wr => ∃ i : Nat, i + kk = n ∧ s9 = .int .i64 (i : Int) ∧ wr = w ∧ ∀ p ∈ xs.take i, least ≤ p ∧ p ≤ 1099511627776)
  case atStart => exact ⟨0, by omega, rfl, rfl, by simp⟩
  case round =>
    obtain ⟨i, hik, rfl, rfl, hall⟩ := hrel
    have HA := Lib.hid hall
    clear hall
    by_cases hi : i < n
    · obtain ⟨b, off, rfl, hcell⟩ := HR.out (by omega)
      have hil : i < xs.length := by rw [HL.out]; exact hi
      obtain ⟨x, hx⟩ : ∃ x, xs[i]? = some x := ⟨_, List.getElem?_eq_getElem hil⟩
      have hc := hcell i (.int .i64 x) (by rw [List.getElem?_map, hx]; rfl)
      have htk : xs.take (i + 1) = xs.take i ++ [x] := by rw [List.take_add_one, hx]; rfl
      have HTK := Lib.hid htk
      clear hcell hil hx htk
      by_cases h1 : x < least
      · have hd1 : decide (x < least) = true := by simpa using h1
        have H1 := Lib.hid h1
        clear h1
        go_wp2_with fail
        go_ret
        exact ⟨⟨false, rfl, fun e => by cases e⟩, rfl⟩
      · have hd1 : decide (x < least) = false := by simpa using h1
        have H1 := Lib.hid h1
        clear h1
        by_cases h2 : 1099511627776 < x
        · have H2 := Lib.hid h2
          go_wp2_with fail
          go_ret
          exact ⟨⟨false, rfl, fun e => by cases e⟩, rfl⟩
        · have H2 := Lib.hid h2
          go_wp2_with fail
          go_roundg (gk - 1)
          case measure => omega
          case rel =>
            refine ⟨i + 1, by omega, rfl, rfl, fun p hp => ?_⟩
            rw [HTK.out] at hp
            rcases List.mem_append.1 hp with hp | hp
            · exact HA.out p hp
            · rw [List.mem_singleton.1 hp]
              have q1 := H1.out
              have q2 := H2.out
              omega
    · have hin : i = n := by omega
      have HIN := Lib.hid hin
      go_wp2_with fail
      go_ret
      refine ⟨⟨true, rfl, fun _ p hp => HA.out p ?_⟩, rfl⟩
      rw [List.take_of_length_le (by rw [HL.out, HIN.out]; exact Nat.le_refl _)]
      exact hp
theorem info_step : (Try.prog.info? 32).map (fun i => (i.zero, i.size, i.bytes)) = some (some (.agg #[.int .i64 0, .int .i64 0, .int .i64 0, .slice none 0 0]), 4, 48) := by kernel_rfl
abbrev rowsS (S : List (Int × Int × Int)) : List Value := (S.map stepL).flatten
theorem rowsS_snoc (S : List (Int × Int × Int)) (op k p : Int) : rowsS (S ++ [(op, k, p)]) = rowsS S ++ (#[Value.int .i64 op, .int .i64 k, .int .i64 p, .slice none 0 0] : Array Value).toList := by
  unfold rowsS
  rw [List.map_append, List.flatten_append]
  rfl
theorem step_ones (op k p : Int) : ∀ u ∈ (#[Value.int .i64 op, .int .i64 k, .int .i64 p, .slice none 0 0] : Array Value).toList, u.oneCell' = true := by
  intro u hu
  simp at hu
  rcases hu with rfl | rfl | rfl | rfl <;> rfl
set_option maxRecDepth 100000 in
set_option maxHeartbeats 1000000 in
theorem fhput_any (v : Value) (xs : List Int) (w : World) (hv : Sl w v (ints xs)) (hn : xs.length ≤ 100) :
    Calls Try.prog 7 #[v] w fun e w' => (∃ pa ca, e = .returned (.slice pa xs.length ca) ∧ w'.ownsRow w.heap.size 32 4 (.slice pa xs.length ca) xs.length (rowsS (xs.map fun p => ((1 : Int), (0 : Int), p)))) ∧ Below w.heap.size w w' := by
  obtain ⟨a, n, cap, rfl, hl, hc, hm, hr⟩ := hv
  rw [List.length_map] at hl
  have HL := Lib.hid hl
  have HR := Lib.hid hr
  clear hr
  rw [hl] at hn ⊢
  clear hl hc hm
  go_enter Try.func7, Try.ntmps7
  go_wp2_with fail
  go_loopg [3, 8] n (fun kk s3 s8 wr => ∃ (i : Nat) (pa : Option Addr) (ca : Nat), i + kk = n ∧ s8 = .int .i64 (i : Int) ∧ s3 = .slice pa i ca ∧ wr.ownsRow w.heap.size 32 4 (.slice pa i ca) i (rowsS ((xs.take i).map fun p => ((1 : Int), (0 : Int), p))) ∧ Below w.heap.size w wr)
  case atStart => exact ⟨0, none, 0, by omega, rfl, rfl, World.ownsRow_nil _ _ _ _, Below.refl _ _⟩
  case round =>
    obtain ⟨i, pa, ca, hik, rfl, rfl, hown, hbel⟩ := hrel
    have HO := Lib.hid hown
    have HB := Lib.hid hbel
    have hsz := hbel.size
    by_cases hi : i < n
    · obtain ⟨b, off, rfl, hcell⟩ := HR.out (by omega)
      have hil : i < xs.length := by rw [HL.out]; exact hi
      obtain ⟨x, hx⟩ : ∃ x, xs[i]? = some x := ⟨_, List.getElem?_eq_getElem hil⟩
      have hc := hcell i (.int .i64 x) (by rw [List.getElem?_map, hx]; rfl)
      rw [← hbel.cell (World.block_lt_of_cell? w _ hc)] at hc
      have htk : (xs.take (i + 1)).map (fun p => ((1 : Int), (0 : Int), p)) = (xs.take i).map (fun p => ((1 : Int), (0 : Int), p)) ++ [(1, 0, x)] := by rw [List.take_add_one, hx]; simp
      have HTK := Lib.hid htk
      have HON := Lib.hid (step_ones 1 0 x)
      clear hcell hil hx htk hown hbel
      go_wp2_with (at_builtin; refine wpList_appendS rfl _ _ 25 rfl w.heap.size 4 32 (.agg #[.int .i64 0, .int .i64 0, .int .i64 0, .slice none 0 0]) 48 Try.underlying25 info_step rfl (by decide) (.slice pa i ca) i (rowsS ((xs.take i).map fun p => ((1 : Int), (0 : Int), p))) rfl HO.out #[.int .i64 1, .int .i64 0, .int .i64 x, .slice none 0 0] rfl rfl HON.out (by unfold maxLen; omega) (by omega) hsz ?_; intro g7 cap7 w7 hown7 hg7 hb7; have HO7 := Lib.hid hown7; have HB7 := Lib.hid hb7; clear hown7 hg7 hb7)
      go_roundg (gk - 1)
      case measure => omega
      case rel => exact ⟨i + 1, some ⟨g7, 0, none⟩, cap7, by omega, rfl, rfl, by rw [HTK.out, rowsS_snoc]; exact HO7.out, HB.out.trans HB7.out⟩
    · have hin : i = n := by omega
      have HIN := Lib.hid hin
      clear hown hbel
      go_wp2_with fail
      go_ret
      refine ⟨⟨pa, ca, by rw [HIN.out]; rfl, ?_⟩, HB.out⟩
      have h := HO.out
      rw [List.take_of_length_le (by rw [HL.out, HIN.out]; exact Nat.le_refl _), HIN.out] at h
      exact h
end Go.Proofs.Ytmhackiiiehlmaa
