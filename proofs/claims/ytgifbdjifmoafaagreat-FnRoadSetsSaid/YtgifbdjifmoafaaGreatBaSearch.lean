/- Walks of uintSlice's search (sort.Search at its closure), getIndexAndRemainder, and the operations of a block. -/
import Derived.Test.YtgifbdjifmoafaaGreatBaSets
import Derived.Laws.BitsAllLaws
namespace Go.Proofs.YtgifbdjifmoafaaGreat
set_option linter.unusedVariables false
open Go.RowKit Bam

theorem below_drewN {B : Nat} {a w : World} (h : Below B a w) (nq : Nat) : Below B a (w.drewN nq) := h.trans ⟨rfl, rfl, rfl, Nat.le_refl _, fun _ _ => rfl⟩
theorem Ue.drewN {e : TypeId} {w : World} {v : Value} {S : List Nat} (h : Ue e w v S) (n : Nat) : Ue e (w.drewN n) v S := h
theorem Ue.drew {e : TypeId} {w : World} {v : Value} {S : List Nat} (h : Ue e w v S) : Ue e w.drew v S := h

set_option maxHeartbeats 400000 in
theorem sclosure_any (b1 b2 : Nat) (v : Value) (S : List Nat) (x : Nat) (i : Nat) (I : Int) (bb : Bool) (w : World) (hI : I = i) (c1 : w.cell? ⟨b1, 0, none⟩ = some v) (c2 : w.cell? ⟨b2, 0, none⟩ = some (.int .u64 (x : Int)))
    (hv : Us w v S) (hi : i < S.length) (hb : decide (x ≤ S.getD i 0) = bb) :
    Calls Tryz.prog 137 #[.int .i64 I, .pointer (some ⟨b1, 0, none⟩), .pointer (some ⟨b2, 0, none⟩)] w fun e w' => e = .returned (.bool bb) ∧ ∃ nq, w' = w.drewN nq := by
  subst hI
  obtain ⟨a, cap, rfl, hr⟩ := hv.shape
  obtain ⟨g, rfl, hc⟩ := hr (by omega)
  have hci := hc i hi
  obtain ⟨X, hX⟩ : ∃ X, S.getD i 0 = X := ⟨_, rfl⟩
  rw [hX] at hci hb
  obtain ⟨n, hN⟩ : ∃ n, n = S.length := ⟨_, rfl⟩
  rw [← hN] at hi c1
  have HB := Lib.hid hb
  clear hv hr hc hX hN hb
  go_enter Tryz.func137, Tryz.ntmps137
  go_wp2_with fail
  go_quiet (fail)
  go_wp2_with fail
  go_ret
  exact ⟨ret_bool HB.out, _, rfl⟩

def SearchRel (S : List Nat) (x : Nat) (w : World) (k : Nat) (iv jv : Value) (wr : World) : Prop :=
  ∃ i j : Nat, iv = .int .i64 (i : Int) ∧ jv = .int .i64 (j : Int) ∧ i ≤ j ∧ j ≤ S.length ∧ j - i = k ∧
    (∀ p, p < i → S.getD p 0 < x) ∧ (∀ p, j ≤ p → p < S.length → x ≤ S.getD p 0) ∧ ∃ nq, wr = w.drewN nq

theorem asc_getD {S : List Nat} (h : Asc S) (p q : Nat) (h1 : p < q) (h2 : q < S.length) : S.getD p 0 < S.getD q 0 := by
  have := List.pairwise_iff_getElem.1 h p q (by omega) h2 h1
  simpa [List.getD_eq_getElem?_getD, h2, show p < S.length from by omega] using this

set_option maxHeartbeats 1000000 in
theorem ssearch_any (b1 b2 : Nat) (v : Value) (S : List Nat) (x n : Nat) (w : World) (c1 : w.cell? ⟨b1, 0, none⟩ = some v) (c2 : w.cell? ⟨b2, 0, none⟩ = some (.int .u64 (x : Int)))
    (hv : Us w v S) (hn : S.length ≤ 1000000) (hN : S.length = n) (hs : Asc S) :
    Calls Tryz.prog 136 #[.int .i64 (n : Int), .func (Fn.func 137) #[] #[.pointer (some ⟨b1, 0, none⟩), .pointer (some ⟨b2, 0, none⟩)]] w
      fun e w' => e = .returned (.int .i64 (sAt S x : Nat)) ∧ ∃ nq, w' = w.drewN nq := by
  have HV := Lib.hid hv
  have HN := Lib.hid hN
  have HS := Lib.hid (asc_getD hs)
  have hn2 : n ≤ 1000000 := by omega
  clear hv hs hN
  go_enter Tryz.func136, Tryz.ntmps136
  go_wp2_with fail
  go_loopg [5, 6] n (fun k iv jv wr => SearchRel S x w k iv jv wr)
  case atStart => exact ⟨0, n, rfl, rfl, Nat.zero_le _, by rw [HN.out]; exact Nat.le_refl _, rfl, fun p hp => absurd hp (Nat.not_lt_zero _), fun p h1 h2 => by rw [HN.out] at h2; omega, 0, rfl⟩
  case round =>
    obtain ⟨i, j, rfl, rfl, hij, hj, hk, l1, l2, nq, rfl⟩ := hrel
    rw [HN.out] at hj
    have L1 := Lib.hid l1
    have L2 := Lib.hid l2
    have HK := Lib.hid hk
    have hin : i < n ∨ ¬ i < j := by omega
    clear l1 l2 hk
    by_cases hlt : i < j
    · cases gk with
      | zero => have := HK.out; omega
      | succ k =>
        obtain ⟨m, hm⟩ : ∃ m, m = (i + j) / 2 := ⟨_, rfl⟩
        have hm1 : i ≤ m := by omega
        have hm2 : m < j := by omega
        have HM := Lib.hid hm
        clear hm
        by_cases hx : x ≤ S.getD m 0
        · have hb : decide (x ≤ S.getD m 0) = true := by simpa using hx
          have HB := Lib.hid hb
          have HX := Lib.hid hx
          clear hb hx
          go_wp2_with fail
          refine (sclosure_any b1 b2 v S x m _ true _ (by have := HM.out; omega) (by simpa using c1) (by simpa using c2) (HV.out.drewN _) (by rw [HN.out]; omega) HB.out).mono ?_
          rintro e w' ⟨rfl, nq2, rfl⟩
          go_wp2_with fail
          go_roundg (m - i)
          case measure => have := HK.out; omega
          case rel => exact ⟨i, m, rfl, by have := HM.out; go_num, hm1, by rw [HN.out]; omega, rfl, L1.out, fun p h1 h2 => by
                        by_cases e : p = m
                        · subst e; exact HX.out
                        · have := HS.out m p (by omega) h2; have := HX.out; omega, _, rfl⟩
        · have hb : decide (x ≤ S.getD m 0) = false := by simpa using hx
          have HB := Lib.hid hb
          have HX := Lib.hid hx
          clear hb hx
          go_wp2_with fail
          refine (sclosure_any b1 b2 v S x m _ false _ (by have := HM.out; omega) (by simpa using c1) (by simpa using c2) (HV.out.drewN _) (by rw [HN.out]; omega) HB.out).mono ?_
          rintro e w' ⟨rfl, nq2, rfl⟩
          go_wp2_with fail
          go_roundg (j - (m + 1))
          case measure => have := HK.out; omega
          case rel => exact ⟨m + 1, j, by have := HM.out; go_num, rfl, by omega, by rw [HN.out]; omega, rfl, fun p hp => by
                        by_cases e : p = m
                        · subst e; have := HX.out; omega
                        · have := HS.out p m (by omega) (by rw [HN.out]; omega); have := HX.out; omega, L2.out, _, rfl⟩
    · have hle : j ≤ i := by omega
      go_wp2_with fail
      go_ret
      have e : sAt S x = i := sAt_of (by rw [HN.out]; omega) L1.out (fun h => by have := L2.out i (by omega) h; omega)
      exact ⟨by rw [e]; rfl, nq, rfl⟩

set_option maxHeartbeats 400000 in
theorem search_any (v : Value) (S : List Nat) (x : Nat) (w : World) (hv : Us w v S) (hn : S.length ≤ 1000000) (hs : Asc S) :
    Calls Tryz.prog 129 #[v, .int .u64 (x : Int)] w fun e w' => e = .returned (.int .i64 (sAt S x : Nat)) ∧ Below w.heap.size w w' := by
  obtain ⟨a, cap, rfl, _⟩ := hv.shape
  have HV := Lib.hid hv
  obtain ⟨n, hN⟩ : ∃ n, S.length = n := ⟨_, rfl⟩
  have HN := Lib.hid hN
  rw [hN] at hn HV ⊢
  clear hv hN
  go_enter Tryz.func129, Tryz.ntmps129
  go_wp2_with fail
  have hb : Below w.heap.size w ((w.alloc (.cells #[.slice a n cap] 109)).alloc (.cells #[.int .u64 (x : Int)] 25)) := ((Below.refl _ _).alloc (Nat.le_refl _) _).alloc (by simp) _
  refine (ssearch_any w.heap.size (w.heap.size + 1) (.slice a n cap) S x n _ ((One.new w 109 (.slice a n cap)).alloc _).cell ?_ (HV.out.below hb rfl) (by rw [HN.out]; exact hn) HN.out hs).mono ?_
  · simp
  rintro e w' ⟨rfl, nq, rfl⟩
  go_wp2_with fail
  go_ret
  exact ⟨rfl, below_drewN hb _⟩

end Go.Proofs.YtgifbdjifmoafaaGreat
