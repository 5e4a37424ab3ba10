/- The walk of the law FnISSearch: it returns true at every input. -/
import Derived.Test.YtgalbnppeboonaaIsSearch
namespace Go.Proofs.Ytgalbnppeboonaa
set_option linter.unusedVariables false
open Go.RowKit

/-- the law's own loop: how many are less, and whether x is there -/
def LawRel (xs : List Int) (x : Int) (w : World) (n k : Nat) (less is idx : Value) (wr : World) : Prop :=
  ∃ i : Nat, idx = .int .i64 (i : Int) ∧ i + k = n ∧ less = .int .i64 (Ism.less x (xs.take i) : Nat) ∧ (∃ b, is = .bool b ∧ Hid (b = decide (x ∈ xs.take i))) ∧ wr = w

theorem take_next (xs : List Int) (i : Nat) (h : i < xs.length) : xs.take (i + 1) = xs.take i ++ [xs.getD i 0] := by
  rw [List.take_succ_eq_append_getElem h]; simp [h]

theorem less_next (xs : List Int) (x : Int) (i : Nat) (h : i < xs.length) : Ism.less x (xs.take (i + 1)) = Ism.less x (xs.take i) + if xs.getD i 0 < x then 1 else 0 := by
  rw [take_next xs i h]; unfold Ism.less; rw [List.countP_append]; simp [List.countP_cons]
theorem mem_next (xs : List Int) (x : Int) (i : Nat) (h : i < xs.length) : decide (x ∈ xs.take (i + 1)) = (decide (x ∈ xs.take i) || (x == xs.getD i 0)) := by
  rw [take_next xs i h]; simp only [List.mem_append, List.mem_singleton]
  rw [Bool.eq_iff_iff]; simp
theorem less_le (x : Int) (l : List Int) : Ism.less x l ≤ l.length := List.countP_le_length

set_option maxHeartbeats 1000000 in
theorem law_is (v : Value) (x : Int) (w : World) (hv : IsInts .i64 w v) :
    Calls Try.prog 5 #[v, .int .i64 x] w fun e w' => e = .returned (.bool true) ∧ Below w.heap.size w w' := by
  obtain ⟨xs, hsl, hwf⟩ := hv
  have hvv := hsl
  obtain ⟨a, n, cap, rfl, hl, hc, hm, hr⟩ := hvv
  have hxl := len_map xs _ n hl
  have HV := Lib.hid hsl
  have HL := Lib.hid hxl
  clear hsl hl hwf
  have hm2 : (n : Int) ≤ 9223372036854775807 := by unfold maxLen at hm; omega
  clear hm
  by_cases h1 : 2147483647 < (n : Int)
  · clear hr hxl
    go_enter Try.func5, Try.ntmps5
    go_wp2_with fail
    go_ret
    exact ⟨rfl, Below.refl _ _⟩
  by_cases h2 : 60 < (n : Int)
  · clear hr hxl
    go_enter Try.func5, Try.ntmps5
    go_wp2_with fail
    go_ret
    exact ⟨rfl, Below.refl _ _⟩
  have hn60 : n ≤ 60 := by omega
  clear hxl
  go_enter Try.func5, Try.ntmps5
  go_wp2_with fail
  go_loopg [5, 6, 18] n (fun k less is idx wr => LawRel xs x w n k less is idx wr)
  case atStart => exact ⟨0, rfl, by omega, by simp [Ism.less], ⟨false, rfl, by simp [Hid]⟩, rfl⟩
  case round =>
    obtain ⟨i, rfl, hik, rfl, ⟨b, rfl, HB⟩, rfl⟩ := hrel
    by_cases hi : i < n
    · obtain ⟨bl, off, rfl, hcell⟩ := hr (by omega)
      have hci := hcell i _ (map_at xs _ i (by rw [HL.out]; exact hi))
      have e1 := less_next xs x i (by rw [HL.out]; exact hi)
      have e2 := mem_next xs x i (by rw [HL.out]; exact hi)
      obtain ⟨X, hX⟩ : ∃ X, xs.getD i 0 = X := ⟨_, rfl⟩
      rw [hX] at hci e1 e2
      have E1 := Lib.hid e1
      have E2 := Lib.hid e2
      have hll := less_le x (xs.take i)
      have htl : (xs.take i).length ≤ 60 := by rw [List.length_take]; omega
      generalize Ism.less x (xs.take i) = L at hll E1 ⊢
      have hL60 : L ≤ 60 := by omega
      clear hcell hr e1 e2 hX hll htl
      cases gk with
      | zero => omega
      | succ k =>
        cases b <;> by_cases c1 : X < x <;> by_cases c2 : x = X
        all_goals first | (exfalso; omega) | skip
        all_goals (try have c3 : (x == X) = false := by simpa using c2)
        all_goals (have C2 := Lib.hid c2; clear c2)
        all_goals (try (have c2 := C2.out; subst c2))
        all_goals go_wp2_with fail
        all_goals go_roundg k
        all_goals first | omega | skip
        all_goals exact ⟨i + 1, by go_num, by omega, congrArg (Value.int .i64) (by rw [E1.out]; split <;> omega), ⟨_, rfl, by show _ = _; rw [E2.out, ← HB.out]; simp [C2.out]⟩, rfl⟩
    · obtain rfl : i = n := by omega
      have et : xs.take i = xs := List.take_of_length_le (by rw [HL.out]; exact Nat.le_refl _)
      have HB2 := HB.out
      rw [et] at HB2
      have HB3 := Lib.hid HB2
      rw [et]
      have hll := less_le x xs
      rw [HL.out] at hll
      clear HB2 hr et
      go_wp2_with fail
      refine (sorted_any _ xs _ HV.out (by rw [HL.out]; exact hn60)).mono ?_
      rintro e w1 ⟨v', rfl, hs1, hb1⟩
      have ord : Ordered (Ism.sorted xs) := fun p q h1 h2 => Ism.sorted_le xs p q h1 (by rwa [Ism.sorted_length] at h2)
      have hperm := Ism.sorted_perm xs
      have hlen : (Ism.sorted xs).length ≤ 1000000 := by rw [Ism.sorted_length, HL.out]; omega
      have e3 : Ism.less x (Ism.sorted xs) = Ism.less x xs := Ism.less_perm x hperm
      have e4 : decide (x ∈ Ism.sorted xs) = b := by rw [HB3.out]; simp [hperm.mem_iff]
      have E3 := Lib.hid e3
      have E4 := Lib.hid e4
      clear hperm e3 e4
      have hvv : ∃ a n cap, v' = .slice a n cap := by obtain ⟨a, n, cap, rfl, _⟩ := hs1; exact ⟨a, n, cap, rfl⟩
      obtain ⟨a', n', cap', rfl⟩ := hvv
      go_wp2_with fail
      refine (is_search_any _ _ x _ hs1 hlen ord).mono ?_
      rintro e w2 ⟨rfl, hb2⟩
      rw [E3.out]
      go_wp2_with fail
      refine (is_exists_any _ _ x _ (hs1.below rfl hb2) hlen ord).mono ?_
      rintro e w3 ⟨rfl, hb3⟩
      rw [E4.out]
      go_wp2_with fail
      go_ret
      exact ⟨ret_bool (by simp), hb1.trans ((hb2.mono hb1.size).trans (hb3.mono (Nat.le_trans hb1.size hb2.size)))⟩
end Go.Proofs.Ytgalbnppeboonaa
