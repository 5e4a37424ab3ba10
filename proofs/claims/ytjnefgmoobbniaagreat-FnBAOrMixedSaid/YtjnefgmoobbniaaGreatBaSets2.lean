/- Walks of the references BADrop, BASame, BACapacity. -/
import Derived.Test.YtjnefgmoobbniaaGreatBaSearch
namespace Go.Proofs.YtjnefgmoobbniaaGreat
set_option linter.unusedVariables false
open Go.RowKit Bam

def SameRel (A B : List Nat) (w : World) (n k : Nat) (idx : Value) (wr : World) : Prop := ∃ i : Nat, idx = .int .i64 (i : Int) ∧ i + k = n ∧ (∀ j, j < i → A.getD j 0 = B.getD j 0) ∧ ∃ nq, wr = w.drewN nq

theorem same_of {A B : List Nat} (hl : A.length = B.length) (h : ∀ j, j < A.length → A.getD j 0 = B.getD j 0) : A = B := by
  apply List.ext_getElem hl
  intro j h1 h2
  have := h j h1
  simpa [List.getD_eq_getElem?_getD, h1, h2] using this

set_option maxHeartbeats 1000000 in
theorem same_any (v1 v2 : Value) (A B : List Nat) (w : World) (h1 : Us w v1 A) (h2 : Us w v2 B) (hn : A.length ≤ 100000) (hn2 : B.length ≤ 100000) :
    Calls Tryz.prog 20 #[v1, v2] w fun e w' => e = .returned (.bool (decide (A = B))) ∧ ∃ nq, w' = w.drewN nq := by
  obtain ⟨a, c, rfl, hr1⟩ := h1.shape
  obtain ⟨b, d, rfl, hr2⟩ := h2.shape
  obtain ⟨n, hN⟩ : ∃ n, n = A.length := ⟨_, rfl⟩
  obtain ⟨m, hM⟩ : ∃ m, m = B.length := ⟨_, rfl⟩
  rw [← hN] at hn hr1 ⊢
  rw [← hM] at hn2 hr2 ⊢
  have HN := Lib.hid hN
  have HM := Lib.hid hM
  by_cases hne : n = m
  · have HNE := Lib.hid hne
    have HR1 := Lib.hid hr1
    have HR2 := Lib.hid hr2
    subst hne
    clear h1 h2 hN hM hr1 hr2
    go_enter Tryz.func20, Tryz.ntmps20
    go_wp2_with fail
    go_loopg [5] n (fun k idx wr => SameRel A B w n k idx wr)
    case atStart => exact ⟨0, rfl, by omega, fun j hj => absurd hj (Nat.not_lt_zero _), 0, rfl⟩
    case round =>
      obtain ⟨i, rfl, hik, heq, nq, rfl⟩ := hrel
      have HEQ := Lib.hid heq
      clear heq
      by_cases hi : i < n
      · obtain ⟨g1, rfl, hc1⟩ := HR1.out (by omega)
        obtain ⟨g2, rfl, hc2⟩ := HR2.out (by omega)
        have k1 := hc1 i (by omega)
        have k2 := hc2 i (by omega)
        obtain ⟨X, hX⟩ : ∃ X, A.getD i 0 = X := ⟨_, rfl⟩
        obtain ⟨Y, hY⟩ : ∃ Y, B.getD i 0 = Y := ⟨_, rfl⟩
        rw [hX] at k1
        rw [hY] at k2
        have HX := Lib.hid hX
        have HY := Lib.hid hY
        have i1 : (i : Int) < (n : Int) := by omega
        have i2 : (0 : Int) ≤ (i : Int) := by omega
        clear hc1 hc2 hX hY
        cases gk with
        | zero => omega
        | succ k =>
          by_cases e : X = Y
          · subst e
            have he : ((X : Int) != (X : Int)) = false := by simp
            go_wp2_with fail
            go_quiet (fail)
            go_wp2_with fail
            go_roundg k
            case measure => omega
            case rel => exact ⟨i + 1, by go_num, by omega, fun j hj => by
                          by_cases e : j = i
                          · subst e; rw [HX.out, HY.out]
                          · exact HEQ.out j (by omega), _, by first | rfl | rw [World.drewN_drewN]⟩
          · have he : ((X : Int) != (Y : Int)) = true := by simp; omega
            have HE := Lib.hid e
            clear e
            go_wp2_with fail
            go_quiet (fail)
            go_wp2_with fail
            go_ret
            exact ⟨ret_bool (by
              have : A ≠ B := fun h => HE.out (by rw [← HX.out, ← HY.out, h])
              simp [this]), _, by first | rfl | rw [World.drewN_drewN]⟩
      · obtain rfl : i = n := by omega
        go_wp2_with fail
        go_ret
        exact ⟨ret_bool (by
          have : A = B := same_of (by rw [← HN.out, ← HM.out]) (fun j hj => HEQ.out j (by rw [HN.out]; exact hj))
          simp [this]), nq, rfl⟩
  · have hne2 : ((n : Int) != (m : Int)) = true := by simp; omega
    have HNE := Lib.hid hne
    clear hr1 hr2 h1 h2 hN hM hne
    go_enter Tryz.func20, Tryz.ntmps20
    go_wp2_with fail
    go_ret
    exact ⟨ret_bool (by
      have : A ≠ B := fun h => HNE.out (by rw [HN.out, HM.out, h])
      simp [this]), 0, rfl⟩

/-- the capacity of a sparse reference -/
theorem bacap_any (v : Value) (S : List Nat) (words : Nat) (w : World) (hv : Us w v S) (hn : S.length ≤ 100000) (hb : ∀ x ∈ S, x < 1152921504606846976) :
    Calls Tryz.prog 22 #[.agg #[.bool false, .int .u64 (words : Int), v]] w fun e w' => e = .returned (.int .u64 ((sCap S : Nat) : Int)) ∧ Below w.heap.size w w' := by
  obtain ⟨a, c, rfl, hr⟩ := hv.shape
  obtain ⟨n, hN⟩ : ∃ n, n = S.length := ⟨_, rfl⟩
  by_cases hz : S.length = 0
  · have he : sCap S = 0 := by
      obtain rfl : S = [] := List.eq_nil_of_length_eq_zero hz
      rfl
    rw [he]
    rw [hz]
    clear hr hb he hv hN
    go_enter Tryz.func22, Tryz.ntmps22
    go_wp2_with fail
    go_ret
    exact ⟨rfl, (Below.refl _ _).alloc (Nat.le_refl _) _⟩
  · obtain ⟨g, rfl, hc⟩ := hr (by omega)
    obtain ⟨m, hm⟩ : ∃ m, S.length = m + 1 := ⟨S.length - 1, by omega⟩
    have hcm := hc m (by omega)
    have hgl : S.getLast? = some (S.getD m 0) := by
      rw [List.getLast?_eq_getElem?, hm, Nat.add_sub_cancel, List.getElem?_eq_getElem (by omega)]
      simp [List.getD_eq_getElem?_getD, show m < S.length from by omega]
    have he : sCap S = 64 * (S.getD m 0 / 64 + 1) := by unfold sCap; rw [hgl]
    have hx : S.getD m 0 < 1152921504606846976 := hb _ (List.mem_of_getLast? hgl)
    rw [he]
    obtain ⟨X, hX⟩ : ∃ X, S.getD m 0 = X := ⟨_, rfl⟩
    rw [hX] at hcm hx ⊢
    rw [← hN] at hm hn ⊢
    have k1 : IntKind.i64.wrap ((n : Int) - 1) = (m : Int) := by rw [IntWalk.i64_in _ (by omega)]; omega
    have k1b : (n : Int) - 1 = (m : Int) := by omega
    have k2 : (m : Int) < (n : Int) := by omega
    have k3 : (0 : Int) ≤ (m : Int) := by omega
    have k4 : m < n := by omega
    have k5 : ((n : Int) == 0) = false := by rw [beq_eq_false_iff_ne]; omega
    have hlt := World.block_lt_of_cell? w _ hcm
    clear hr hc hb he hX hN hv hgl hz hm
    go_enter Tryz.func22, Tryz.ntmps22
    go_wp2_with fail
    go_ret
    exact ⟨ret_int (by omega), (Below.refl _ _).alloc (Nat.le_refl _) _⟩
end Go.Proofs.YtjnefgmoobbniaaGreat
