/- Walks of spec.BAAnd, BANand and BAOr (printed by gen_ba_sets3.py). -/
import Derived.Test.YtjnefgmoobbniaaGreatBaTwoLaw
namespace Go.Proofs.YtjnefgmoobbniaaGreat
set_option linter.unusedVariables false
open Go.RowKit Bam

theorem sNand_succ (A B : List Nat) (i : Nat) (h : i < A.length) : sNand (A.take (i + 1)) B = if sHas B (A.getD i 0) then sNand (A.take i) B else sNand (A.take i) B ++ [A.getD i 0] := by
  unfold sNand
  rw [List.take_succ_eq_append_getElem h, List.filter_append, show A.getD i 0 = A[i] by rw [List.getD_eq_getElem?_getD, List.getElem?_eq_getElem h]; rfl]
  by_cases hb : sHas B A[i] <;> simp [hb]
theorem sNand_le (A B : List Nat) (i : Nat) : (sNand (A.take i) B).length ≤ i := by
  unfold sNand
  exact Nat.le_trans (List.length_filter_le _ _) (by rw [List.length_take]; omega)
def NandLoop (A B : List Nat) (n : Nat) (w : World) (k : Nat) (so idx : Value) (wr : World) : Prop :=
  ∃ (i : Nat) (p : Option Addr) (m cc : Nat), so = .slice p m cc ∧ idx = .int .i64 (i : Int) ∧ i + k = n ∧ wr.ownsRow w.heap.size 34 1 (.slice p m cc) m (u64s (sNand (A.take i) B)) ∧ Below w.heap.size w wr

set_option maxRecDepth 100000 in
set_option maxHeartbeats 2000000 in
theorem baand_c (A B : List Nat) (hA : A.length ≤ 3000) (hB : B.length ≤ 3000) : SetsC 9 A B (sAnd A B) := by
  intro w s1 s2 h1 h2
  obtain ⟨a, c, rfl, hr⟩ := h1.shape
  obtain ⟨b, d, rfl, -⟩ := h2.shape
  obtain ⟨n, hn⟩ : ∃ n, A.length = n := ⟨_, rfl⟩
  obtain ⟨m, hm⟩ : ∃ m, B.length = m := ⟨_, rfl⟩
  rw [hn] at hr hA h1 ⊢
  rw [hm] at hB h2 ⊢
  have hbl : B.length ≤ 1000000 := by omega
  have HBL := Lib.hid hbl
  have HN := Lib.hid hn
  have H2 := Lib.hid h2
  clear h1 h2 hn hm hbl
  go_enter Tryz.func9, Tryz.ntmps9
  go_wp2_with fail
  go_loopg [5, 6] n (fun k so idx wr => AndLoop A B n w k so idx wr)
  case atStart => exact ⟨0, none, 0, 0, rfl, rfl, by omega, World.ownsRow_nil _ _ _ _, Below.refl _ _⟩
  case round =>
    obtain ⟨i, p, z, cc, rfl, rfl, hik, hown, hbel⟩ := hrel
    have hsz := hbel.size
    have hz : z ≤ 3000 := by
      have h := hown.1
      rw [u64s_len, Nat.mul_one] at h
      have := sAnd_le A B i
      omega
    have HO := Lib.hid hown
    have HB := Lib.hid hbel
    by_cases hi : i < n
    · obtain ⟨g, rfl, hcell⟩ := hr (by omega)
      have hc := hcell i hi
      have hc2 := cell_below hbel (Nat.le_refl _) hc
      have hsu := sAnd_succ A B i (by rw [HN.out]; exact hi)
      have hh := has_any (.slice b m d) B (A.getD i 0) wr (own_below H2.out (hbel.mono (Nat.le_refl _))) HBL.out
      obtain ⟨X, hX⟩ : ∃ X, A.getD i 0 = X := ⟨_, rfl⟩
      rw [hX] at hc2 hsu hh
      have HH := Lib.hid hh
      have HS := Lib.hid hsu
      clear hcell hc hsu hh hown hbel hX hr
      cases gk with
      | zero => omega
      | succ k =>
        go_wp2_with fail
        refine HH.out.mono ?_
        rintro e w' ⟨rfl, rfl⟩
        cases hx : sHas B X with
        | true =>
          have HX := Lib.hid hx
          clear hx
          go_wp2_with (at_builtin; refine wpList_append1 rfl _ _ 24 rfl w.heap.size 34 (.int .u64 0) 8 Tryz.underlying24 info_u64 rfl (.slice p z cc) z _ rfl HO.out (.int .u64 (X : Int)) rfl rfl (by unfold maxLen; omega) (by omega) (by omega) ?_; intro g5 k5 w5 hown5 hg5 hb5; have HO5 := Lib.hid hown5; have HB5 := Lib.hid (HB.out.trans hb5); clear hown5 hg5 hb5)
          go_roundg k
          case measure => omega
          case rel =>
            refine ⟨i + 1, some ⟨g5, 0, none⟩, z + 1, k5, rfl, by go_num, by omega, ?_, HB5.out⟩
            rw [HS.out, HX.out]
            simp only [if_true, if_false, Bool.false_eq_true]
            rw [u64s_append]
            exact HO5.out
        | false =>
          have HX := Lib.hid hx
          clear hx
          go_wp2_with fail
          go_roundg k
          case measure => omega
          case rel =>
            refine ⟨i + 1, p, z, cc, rfl, by go_num, by omega, ?_, HB.out⟩
            rw [HS.out, HX.out]
            simp only [if_true, if_false, Bool.false_eq_true]
            exact HO.out
    · obtain rfl : i = n := by omega
      clear hown hbel
      go_wp2_with fail
      go_ret
      refine ⟨_, rfl, ?_, HB.out⟩
      have h := HO.out
      rw [List.take_of_length_le (by rw [HN.out]; exact Nat.le_refl _)] at h
      exact Us.of h

set_option maxRecDepth 100000 in
set_option maxHeartbeats 2000000 in
theorem banand_c (A B : List Nat) (hA : A.length ≤ 3000) (hB : B.length ≤ 3000) : SetsC 15 A B (sNand A B) := by
  intro w s1 s2 h1 h2
  obtain ⟨a, c, rfl, hr⟩ := h1.shape
  obtain ⟨b, d, rfl, -⟩ := h2.shape
  obtain ⟨n, hn⟩ : ∃ n, A.length = n := ⟨_, rfl⟩
  obtain ⟨m, hm⟩ : ∃ m, B.length = m := ⟨_, rfl⟩
  rw [hn] at hr hA h1 ⊢
  rw [hm] at hB h2 ⊢
  have hbl : B.length ≤ 1000000 := by omega
  have HBL := Lib.hid hbl
  have HN := Lib.hid hn
  have H2 := Lib.hid h2
  clear h1 h2 hn hm hbl
  go_enter Tryz.func15, Tryz.ntmps15
  go_wp2_with fail
  go_loopg [5, 6] n (fun k so idx wr => NandLoop A B n w k so idx wr)
  case atStart => exact ⟨0, none, 0, 0, rfl, rfl, by omega, World.ownsRow_nil _ _ _ _, Below.refl _ _⟩
  case round =>
    obtain ⟨i, p, z, cc, rfl, rfl, hik, hown, hbel⟩ := hrel
    have hsz := hbel.size
    have hz : z ≤ 3000 := by
      have h := hown.1
      rw [u64s_len, Nat.mul_one] at h
      have := sNand_le A B i
      omega
    have HO := Lib.hid hown
    have HB := Lib.hid hbel
    by_cases hi : i < n
    · obtain ⟨g, rfl, hcell⟩ := hr (by omega)
      have hc := hcell i hi
      have hc2 := cell_below hbel (Nat.le_refl _) hc
      have hsu := sNand_succ A B i (by rw [HN.out]; exact hi)
      have hh := has_any (.slice b m d) B (A.getD i 0) wr (own_below H2.out (hbel.mono (Nat.le_refl _))) HBL.out
      obtain ⟨X, hX⟩ : ∃ X, A.getD i 0 = X := ⟨_, rfl⟩
      rw [hX] at hc2 hsu hh
      have HH := Lib.hid hh
      have HS := Lib.hid hsu
      clear hcell hc hsu hh hown hbel hX hr
      cases gk with
      | zero => omega
      | succ k =>
        go_wp2_with fail
        refine HH.out.mono ?_
        rintro e w' ⟨rfl, rfl⟩
        cases hx : sHas B X with
        | false =>
          have HX := Lib.hid hx
          clear hx
          go_wp2_with (at_builtin; refine wpList_append1 rfl _ _ 24 rfl w.heap.size 34 (.int .u64 0) 8 Tryz.underlying24 info_u64 rfl (.slice p z cc) z _ rfl HO.out (.int .u64 (X : Int)) rfl rfl (by unfold maxLen; omega) (by omega) (by omega) ?_; intro g5 k5 w5 hown5 hg5 hb5; have HO5 := Lib.hid hown5; have HB5 := Lib.hid (HB.out.trans hb5); clear hown5 hg5 hb5)
          go_roundg k
          case measure => omega
          case rel =>
            refine ⟨i + 1, some ⟨g5, 0, none⟩, z + 1, k5, rfl, by go_num, by omega, ?_, HB5.out⟩
            rw [HS.out, HX.out]
            simp only [if_true, if_false, Bool.false_eq_true]
            rw [u64s_append]
            exact HO5.out
        | true =>
          have HX := Lib.hid hx
          clear hx
          go_wp2_with fail
          go_roundg k
          case measure => omega
          case rel =>
            refine ⟨i + 1, p, z, cc, rfl, by go_num, by omega, ?_, HB.out⟩
            rw [HS.out, HX.out]
            simp only [if_true, if_false, Bool.false_eq_true]
            exact HO.out
    · obtain rfl : i = n := by omega
      clear hown hbel
      go_wp2_with fail
      go_ret
      refine ⟨_, rfl, ?_, HB.out⟩
      have h := HO.out
      rw [List.take_of_length_le (by rw [HN.out]; exact Nat.le_refl _)] at h
      exact Us.of h
end Go.Proofs.YtjnefgmoobbniaaGreat
