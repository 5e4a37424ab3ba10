/- Walks of impl.ints, sort.Search at Int64Slice's closure, Int64Slice's Search and Exists. -/
import Derived.Test.YtepjailijekepaaIs
import Derived.BigQuiet
import Derived.Deep.QuietTactic
namespace Go.Proofs.Ytepjailijekepaa
set_option linter.unusedVariables false
open Go.RowKit

theorem one_cells (k : IntKind) (xs : List Int) : ∀ u ∈ xs.map (Value.int k), u.oneCell' = true := by
  intro u hu
  obtain ⟨x, _, rfl⟩ := List.mem_map.1 hu
  rfl

set_option maxHeartbeats 400000 in
theorem ints_any (v : Value) (xs : List Int) (w : World) (hv : Sl w v (xs.map (Value.int .i64))) (hn : xs.length ≤ 1000000) :
    Calls Try.prog 24 #[v] w fun e w' => ∃ v', e = .returned v' ∧ w'.ownsRow w.heap.size 2 1 v' xs.length (xs.map (Value.int .i64)) ∧ Below w.heap.size w w' := by
  have hvv : ∃ a n cap, v = .slice a n cap := by obtain ⟨a, n, cap, rfl, _⟩ := hv; exact ⟨a, n, cap, rfl⟩
  have HV := Lib.hid hv
  obtain ⟨a, n, cap, rfl⟩ := hvv
  have hL : (xs.map (Value.int .i64)).length = xs.length := by simp
  have HL := Lib.hid hL
  clear hv hL
  go_enter Try.func24, Try.ntmps24
  go_wp2_with (at_builtin; refine wpList_appendSl rfl _ _ 49 22 rfl w.heap.size 2 2 (.int .i64 0) 8 Try.underlying49 Try.underlying22 info_i64 rfl _ 0 [] rfl (World.ownsRow_nil _ _ _ _) _ _ rfl HV.out (one_cells _ _) (by rw [HL.out]; unfold maxLen; omega) (by rw [HL.out]; omega) (Nat.le_refl _) ?_; intro p1 m1 cap1 w1 hown1 _ hb1)
  go_ret
  rw [HL.out] at hown1
  simp only [Nat.zero_add, List.nil_append] at hown1
  exact ⟨_, rfl, hown1, hb1⟩

set_option maxHeartbeats 400000 in
theorem closure_any (b1 b2 : Nat) (a : Option Addr) (n cap : Nat) (xs : List Int) (x : Int) (i : Nat) (w : World) (c1 : w.cell? ⟨b1, 0, none⟩ = some (.slice a n cap)) (c2 : w.cell? ⟨b2, 0, none⟩ = some (.int .i64 x))
    (hv : Sl w (.slice a n cap) (xs.map (Value.int .i64))) (hi : i < xs.length) :
    Calls Try.prog 54 #[.int .i64 (i : Int), .pointer (some ⟨b1, 0, none⟩), .pointer (some ⟨b2, 0, none⟩)] w fun e w' => e = .returned (.bool (decide (x ≤ xs.getD i 0))) ∧ ∃ nq, w' = w.drewN nq := by
  obtain ⟨a', n', cap', e, hl, hc, hm, hr⟩ := hv
  simp only [Value.slice.injEq] at e
  obtain ⟨rfl, rfl, rfl⟩ := e
  have hxl := len_map xs _ _ hl
  have hin : i < n := by omega
  obtain ⟨b, off, rfl, hcell⟩ := hr (by omega)
  have h := hcell i _ (map_at xs _ i hi)
  obtain ⟨X, hX⟩ : ∃ X, xs.getD i 0 = X := ⟨_, rfl⟩
  rw [hX] at h
  rw [hX]
  clear hr hcell hl hxl hX hi
  go_enter Try.func54, Try.ntmps54
  go_wp2_with fail
  go_quiet (fail)
  go_wp2_with fail
  go_ret
  exact ⟨rfl, _, rfl⟩

theorem closure_b (bb : Bool) (b1 b2 : Nat) (a : Option Addr) (n cap : Nat) (xs : List Int) (x : Int) (I : Int) (i : Nat) (w : World) (hI : I = i) (c1 : w.cell? ⟨b1, 0, none⟩ = some (.slice a n cap)) (c2 : w.cell? ⟨b2, 0, none⟩ = some (.int .i64 x))
    (hv : Sl w (.slice a n cap) (xs.map (Value.int .i64))) (hi : i < xs.length) (hb : decide (x ≤ xs.getD i 0) = bb) :
    Calls Try.prog 54 #[.int .i64 I, .pointer (some ⟨b1, 0, none⟩), .pointer (some ⟨b2, 0, none⟩)] w fun e w' => e = .returned (.bool bb) ∧ ∃ nq, w' = w.drewN nq := by
  subst hI
  rw [← hb]
  exact closure_any b1 b2 a n cap xs x i w c1 c2 hv hi

/-- sort.Search asks the closure: it finds how many are less -/
def SearchRel (xs : List Int) (x : Int) (w : World) (k : Nat) (iv jv : Value) (wr : World) : Prop :=
  ∃ i j : Nat, iv = .int .i64 (i : Int) ∧ jv = .int .i64 (j : Int) ∧ i ≤ j ∧ j ≤ xs.length ∧ j - i = k ∧
    (∀ p, p < i → xs.getD p 0 < x) ∧ (∀ p, j ≤ p → p < xs.length → x ≤ xs.getD p 0) ∧ ∃ nq, wr = w.drewN nq

theorem Sl.drewN {w : World} {v : Value} {vs : List Value} (h : Sl w v vs) (nq : Nat) : Sl (w.drewN nq) v vs :=
  h.below rfl (below_drewN (Below.refl _ _) nq)

set_option maxHeartbeats 1000000 in
theorem sort_search_any (b1 b2 : Nat) (a : Option Addr) (n cap : Nat) (xs : List Int) (x : Int) (w : World) (c1 : w.cell? ⟨b1, 0, none⟩ = some (.slice a n cap)) (c2 : w.cell? ⟨b2, 0, none⟩ = some (.int .i64 x))
    (hv : Sl w (.slice a n cap) (xs.map (Value.int .i64))) (hn : xs.length ≤ 1000000) (hN : xs.length = n) (hs : ∀ p q, p < q → q < xs.length → xs.getD p 0 ≤ xs.getD q 0) :
    Calls Try.prog 53 #[.int .i64 (n : Int), .func (Fn.func 54) #[] #[.pointer (some ⟨b1, 0, none⟩), .pointer (some ⟨b2, 0, none⟩)]] w
      fun e w' => ∃ r : Nat, e = .returned (.int .i64 (r : Int)) ∧ r ≤ n ∧ (∀ p, p < r → xs.getD p 0 < x) ∧ (∀ p, r ≤ p → p < xs.length → x ≤ xs.getD p 0) ∧ ∃ nq, w' = w.drewN nq := by
  have HV := Lib.hid hv
  have HN := Lib.hid hN
  have HS := Lib.hid hs
  have hn2 : n ≤ 1000000 := by omega
  clear hv hs hN
  go_enter Try.func53, Try.ntmps53
  go_wp2_with fail
  go_loopg [5, 6] n (fun k iv jv wr => SearchRel xs x w k iv jv wr)
  case atStart => exact ⟨0, n, rfl, rfl, Nat.zero_le _, by rw [HN.out]; exact Nat.le_refl _, rfl, fun p hp => absurd hp (Nat.not_lt_zero _), fun p h1 h2 => by rw [HN.out] at h2; omega, 0, rfl⟩
  case round =>
    obtain ⟨i, j, rfl, rfl, hij, hj, hk, l1, l2, nq, rfl⟩ := hrel
    rw [HN.out] at hj
    have L1 := Lib.hid l1
    have L2 := Lib.hid l2
    have HK := Lib.hid hk
    have hin : i < n ∨ ¬ i < j := by omega
    clear l1 l2 hk
    by_cases hlt : i < j
    · cases gk with
      | zero => have := HK.out; omega
      | succ k =>
        obtain ⟨m, hm⟩ : ∃ m, m = (i + j) / 2 := ⟨_, rfl⟩
        have hm1 : i ≤ m := by omega
        have hm2 : m < j := by omega
        have HM := Lib.hid hm
        clear hm
        by_cases hx : x ≤ xs.getD m 0
        · have hb : decide (x ≤ xs.getD m 0) = true := by simpa using hx
          have HB := Lib.hid hb
          have HX := Lib.hid hx
          clear hb hx
          go_wp2_with fail
          refine (closure_b true b1 b2 a n cap xs x _ m _ (by have := HM.out; omega) (by simpa using c1) (by simpa using c2) (HV.out.drewN _) (by rw [HN.out]; omega) HB.out).mono ?_
          rintro e w' ⟨rfl, nq2, rfl⟩
          go_wp2_with fail
          go_roundg (m - i)
          case measure => have := HK.out; omega
          case rel => exact ⟨i, m, rfl, by have := HM.out; go_num, hm1, by rw [HN.out]; omega, rfl, L1.out, fun p h1 h2 => by
                        by_cases e : p = m
                        · subst e; exact HX.out
                        · have := HS.out m p (by omega) h2; have := HX.out; omega, _, rfl⟩
        · have hb : decide (x ≤ xs.getD m 0) = false := by simpa using hx
          have HB := Lib.hid hb
          have HX := Lib.hid hx
          clear hb hx
          go_wp2_with fail
          refine (closure_b false b1 b2 a n cap xs x _ m _ (by have := HM.out; omega) (by simpa using c1) (by simpa using c2) (HV.out.drewN _) (by rw [HN.out]; omega) HB.out).mono ?_
          rintro e w' ⟨rfl, nq2, rfl⟩
          go_wp2_with fail
          go_roundg (j - (m + 1))
          case measure => have := HK.out; omega
          case rel => exact ⟨m + 1, j, by have := HM.out; go_num, rfl, by omega, by rw [HN.out]; omega, rfl, fun p hp => by
                        by_cases e : p = m
                        · subst e; have := HX.out; omega
                        · have := HS.out p m (by omega) (by rw [HN.out]; omega); have := HX.out; omega, L2.out, _, rfl⟩
    · have hle : j ≤ i := by omega
      go_wp2_with fail
      go_ret
      exact ⟨i, rfl, by omega, L1.out, fun p h1 h2 => L2.out p (by omega) h2, nq, rfl⟩
/-- what Search says of an ordered list -/
def Found (xs : List Int) (x : Int) (r : Nat) : Prop := r ≤ xs.length ∧ (∀ p, p < r → xs.getD p 0 < x) ∧ (∀ p, r ≤ p → p < xs.length → x ≤ xs.getD p 0)
def Ordered (xs : List Int) : Prop := ∀ p q, p < q → q < xs.length → xs.getD p 0 ≤ xs.getD q 0

set_option maxHeartbeats 400000 in
theorem search_any (v : Value) (xs : List Int) (x : Int) (w : World) (hv : Sl w v (xs.map (Value.int .i64))) (hn : xs.length ≤ 1000000) (hs : Ordered xs) :
    Calls Try.prog 40 #[v, .int .i64 x] w fun e w' => ∃ r : Nat, e = .returned (.int .i64 (r : Int)) ∧ Found xs x r ∧ Below w.heap.size w w' := by
  have hvv : ∃ a n cap, v = .slice a n cap := by obtain ⟨a, n, cap, rfl, _⟩ := hv; exact ⟨a, n, cap, rfl⟩
  obtain ⟨a, n, cap, rfl⟩ := hvv
  have hl := len_map xs _ _ hv.length
  have HV := Lib.hid hv
  have HL := Lib.hid hl
  clear hv hl
  go_enter Try.func40, Try.ntmps40
  go_wp2_with fail
  have hb : Below w.heap.size w ((w.alloc (.cells #[.slice a n cap] 49)).alloc (.cells #[.int .i64 x] 2)) := ((Below.refl _ _).alloc (Nat.le_refl _) _).alloc (by simp) _
  refine (sort_search_any w.heap.size (w.heap.size + 1) a n cap xs x _ ((One.new w 49 (.slice a n cap)).alloc _).cell ?_ (HV.out.below rfl hb) hn HL.out hs).mono ?_
  · simp
  rintro e w' ⟨r, rfl, h1, h2, h3, nq, rfl⟩
  go_wp2_with fail
  go_ret
  exact ⟨r, rfl, ⟨by rw [HL.out]; exact h1, h2, h3⟩, below_drewN hb _⟩

set_option maxHeartbeats 400000 in
theorem exists_any (v : Value) (xs : List Int) (x : Int) (w : World) (hv : Sl w v (xs.map (Value.int .i64))) (hn : xs.length ≤ 1000000) (hs : Ordered xs) :
    Calls Try.prog 26 #[v, .int .i64 x] w fun e w' => e = .returned (.bool (decide (x ∈ xs))) ∧ Below w.heap.size w w' := by
  have hvv : ∃ a n cap, v = .slice a n cap := by obtain ⟨a, n, cap, rfl, _⟩ := hv; exact ⟨a, n, cap, rfl⟩
  obtain ⟨a, n, cap, rfl⟩ := hvv
  have hl := len_map xs _ _ hv.length
  have HV := Lib.hid hv
  have HL := Lib.hid hl
  clear hv hl
  go_enter Try.func26, Try.ntmps26
  go_wp2_with fail
  refine (search_any _ xs x _ HV.out hn hs).mono ?_
  rintro e w' ⟨r, rfl, ⟨h1, h2, h3⟩, hb⟩
  have hm := Ism.mem_at x xs r h2 hs h3
  rw [HL.out] at h1 hm
  have H2 := Lib.hid h2
  have H3 := Lib.hid h3
  clear h2 h3
  by_cases hr : r = n
  · subst hr
    have hd : decide (x ∈ xs) = false := by simp [hm]
    have HD := Lib.hid hd
    clear hm hd
    go_wp2_with fail
    go_ret
    exact ⟨ret_bool HD.out.symm, hb⟩
  · have hrn : r < n := by omega
    have hne : ((r : Int) == (n : Int)) = false := by simp; omega
    obtain ⟨a', n', cap', e, hl, hc, hmx, hrr⟩ := HV.out
    simp only [Value.slice.injEq] at e
    obtain ⟨rfl, rfl, rfl⟩ := e
    obtain ⟨b, off, rfl, hcell⟩ := hrr (by omega)
    have h := hcell r _ (map_at xs _ r (by rw [HL.out]; exact hrn))
    rw [← hb.cell (World.block_lt_of_cell? w _ h)] at h
    obtain ⟨X, hX⟩ : ∃ X, xs.getD r 0 = X := ⟨_, rfl⟩
    rw [hX] at h hm
    have hd : decide (x ∈ xs) = (X == x) := by
      by_cases e : X = x
      · subst e; simp [hm, hrn]
      · have e2 : ¬ x ∈ xs := fun hx => e ((hm.1 hx).2)
        simp [e2, e]
    have HD := Lib.hid hd
    clear hm hd hcell hrr hl hX hr
    go_wp2_with fail
    go_ret
    exact ⟨ret_bool HD.out.symm, hb⟩

set_option maxHeartbeats 400000 in
theorem is_exists_any (v : Value) (xs : List Int) (x : Int) (w : World) (hv : Sl w v (xs.map (Value.int .i64))) (hn : xs.length ≤ 1000000) (hs : Ordered xs) :
    Calls Try.prog 8 #[v, .int .i64 x] w fun e w' => e = .returned (.bool (decide (x ∈ xs))) ∧ Below w.heap.size w w' := by
  have hvv : ∃ a n cap, v = .slice a n cap := by obtain ⟨a, n, cap, rfl, _⟩ := hv; exact ⟨a, n, cap, rfl⟩
  obtain ⟨a, n, cap, rfl⟩ := hvv
  have HV := Lib.hid hv
  clear hv
  go_enter Try.func8, Try.ntmps8
  go_wp2_with fail
  refine (ints_any _ xs _ HV.out hn).mono ?_
  rintro e w1 ⟨v', rfl, hown, hb1⟩
  have hsl := Sl.of_owns hown
  have hvv : ∃ a n cap, v' = .slice a n cap := by obtain ⟨a, n, cap, rfl, _⟩ := hsl; exact ⟨a, n, cap, rfl⟩
  obtain ⟨a', n', cap', rfl⟩ := hvv
  clear hown
  go_wp2_with fail
  refine (exists_any _ xs x _ hsl hn hs).mono ?_
  rintro e w2 ⟨rfl, hb2⟩
  go_wp2_with fail
  go_ret
  exact ⟨rfl, hb1.trans (hb2.mono hb1.size)⟩

end Go.Proofs.Ytepjailijekepaa
