/- Plain: the lowest and the highest bit of a dense array. -/
import Derived.Test.YtjnefgmoobbniaaGreatBaMath4
namespace Bam
set_option linter.unusedVariables false
open Go.Proofs.YtjnefgmoobbniaaGreat

def loW (W : List Nat) : Nat := (dnums W).headD 0
def hiW (W : List Nat) : Nat := (dnums W).getLastD 0
def anyW (W : List Nat) : Bool := decide (dnums W ≠ [])

theorem head_min {L : List Nat} (h : Asc L) {x : Nat} (hx : x ∈ L) (hm : ∀ y ∈ L, x ≤ y) : L.headD 0 = x := by
  cases L with
  | nil => simp at hx
  | cons a L =>
    show a = x
    have h1 := hm a List.mem_cons_self
    rcases List.mem_cons.1 hx with e | e
    · exact e.symm
    · have := (asc_cons.1 h).1 x e; omega
theorem last_max {L : List Nat} (h : Asc L) {x : Nat} (hx : x ∈ L) (hm : ∀ y ∈ L, y ≤ x) : L.getLastD 0 = x := by
  rcases List.eq_nil_or_concat L with e | ⟨l, a, e⟩
  · rw [e] at hx; simp at hx
  · have e' : L = l ++ [a] := by simpa using e
    rw [e'] at h hx hm ⊢
    rw [List.getLastD_concat]
    have h1 := hm a (by simp)
    rcases List.mem_append.1 hx with e | e
    · have := (asc_append.1 h).2.2 x e a (by simp); omega
    · exact (List.mem_singleton.1 e).symm
theorem head_mem {L : List Nat} (hn : L ≠ []) : L.headD 0 ∈ L := by cases L with | nil => exact absurd rfl hn | cons a L => exact List.mem_cons_self
theorem last_mem {L : List Nat} (hn : L ≠ []) : L.getLastD 0 ∈ L := by
  rcases List.eq_nil_or_concat L with e | ⟨l, a, e⟩
  · exact absurd e hn
  · have e' : L = l ++ [a] := by simpa using e
    rw [e', List.getLastD_concat]; simp
theorem head_le {L : List Nat} (h : Asc L) {y : Nat} (hy : y ∈ L) : L.headD 0 ≤ y := by
  cases L with
  | nil => simp at hy
  | cons a L =>
    show a ≤ y
    rcases List.mem_cons.1 hy with e | e
    · omega
    · have := (asc_cons.1 h).1 y e; omega
theorem le_last {L : List Nat} (h : Asc L) {y : Nat} (hy : y ∈ L) : y ≤ L.getLastD 0 := by
  rcases List.eq_nil_or_concat L with e | ⟨l, a, e⟩
  · rw [e] at hy; simp at hy
  · have e' : L = l ++ [a] := by simpa using e
    rw [e'] at h hy ⊢
    rw [List.getLastD_concat]
    rcases List.mem_append.1 hy with e | e
    · have := (asc_append.1 h).2.2 y e a (by simp); omega
    · rw [List.mem_singleton.1 e]; exact Nat.le_refl _

theorem any_set {W : List Nat} (h : W64 W) {k : Nat} (hk : k < 64 * W.length) : anyW (dSet W k) = true := by
  unfold anyW
  rw [decide_eq_true_iff, (dSet_ok h hk).2]
  intro e
  have := (sPut_mem (dnums W) k k).2 (.inl rfl)
  rw [e] at this; simp at this
theorem lo_set {W : List Nat} (h : W64 W) {k : Nat} (hk : k < 64 * W.length) : loW (dSet W k) = if anyW W = true then (if k < loW W then k else loW W) else k := by
  have hm := fun x => sPut_mem (dnums W) k x
  unfold loW anyW
  rw [(dSet_ok h hk).2]
  refine head_min (sPut_asc (asc_dnums h) k) ?_ ?_
  · rw [hm]
    split
    · rename_i hn
      split
      · exact .inl rfl
      · exact .inr (head_mem (by simpa using hn))
    · exact .inl rfl
  · intro y hy
    rcases (hm y).1 hy with e | e
    · split
      · split <;> omega
      · omega
    · have hn : dnums W ≠ [] := fun e2 => by rw [e2] at e; simp at e
      rw [if_pos (by simpa using hn)]
      have := head_le (asc_dnums h) e
      split <;> omega
theorem hi_set {W : List Nat} (h : W64 W) {k : Nat} (hk : k < 64 * W.length) : hiW (dSet W k) = if anyW W = true then (if hiW W < k then k else hiW W) else k := by
  have hm := fun x => sPut_mem (dnums W) k x
  unfold hiW anyW
  rw [(dSet_ok h hk).2]
  refine last_max (sPut_asc (asc_dnums h) k) ?_ ?_
  · rw [hm]
    split
    · rename_i hn
      split
      · exact .inl rfl
      · exact .inr (last_mem (by simpa using hn))
    · exact .inl rfl
  · intro y hy
    rcases (hm y).1 hy with e | e
    · split
      · split <;> omega
      · omega
    · have hn : dnums W ≠ [] := fun e2 => by rw [e2] at e; simp at e
      rw [if_pos (by simpa using hn)]
      have := le_last (asc_dnums h) e
      split <;> omega
theorem lo_le_hi {W : List Nat} (h : W64 W) (ha : anyW W = true) : loW W ≤ hiW W := by
  have hn : dnums W ≠ [] := by unfold anyW at ha; simpa using ha
  exact head_le (asc_dnums h) (last_mem hn)
theorem hi_lt {W : List Nat} (h : W64 W) : hiW W < 64 * W.length ∨ dnums W = [] := by
  by_cases hn : dnums W = []
  · exact .inr hn
  · exact .inl (dnums_lt h (last_mem hn))
theorem lo_nil {W : List Nat} (h : dnums W = []) : loW W = 0 ∧ hiW W = 0 ∧ anyW W = false := by
  unfold loW hiW anyW; rw [h]; exact ⟨rfl, rfl, by simp⟩
theorem w64_rep (n : Nat) : W64 (List.replicate n 0) := fun x hx => by rw [List.eq_of_mem_replicate hx]; decide
/-- the words before the first that is not 0 -/
theorem lo_at {W : List Nat} (h : W64 W) {i c : Nat} (hi : i < W.length) (hz : ∀ j, j < i → W.getD j 0 = 0) (hc : (W.getD i 0).testBit c = true) (hcl : c < 64) (hlow : ∀ j, j < c → (W.getD i 0).testBit j = false) : loW W = i * 64 + c ∧ anyW W = true := by
  have hk : i * 64 + c ∈ dnums W := by rw [mem_dnums h, show (i * 64 + c) / 64 = i by omega, show (i * 64 + c) % 64 = c by omega]; exact hc
  refine ⟨head_min (asc_dnums h) hk fun y hy => ?_, ?_⟩
  · rw [mem_dnums h] at hy
    by_cases hlt : y / 64 < i
    · rw [hz _ hlt] at hy; simp at hy
    · by_cases he : y / 64 = i
      · rw [he] at hy
        by_cases hj : y % 64 < c
        · rw [hlow _ hj] at hy; cases hy
        · omega
      · omega
  · unfold anyW; rw [decide_eq_true_iff]; intro e; rw [e] at hk; simp at hk
theorem hi_at {W : List Nat} (h : W64 W) {i c : Nat} (hi : i < W.length) (hz : ∀ j, i < j → W.getD j 0 = 0) (hc : (W.getD i 0).testBit c = true) (hcl : c < 64) (hhigh : ∀ j, c < j → j < 64 → (W.getD i 0).testBit j = false) : hiW W = i * 64 + c ∧ anyW W = true := by
  have hk : i * 64 + c ∈ dnums W := by rw [mem_dnums h, show (i * 64 + c) / 64 = i by omega, show (i * 64 + c) % 64 = c by omega]; exact hc
  refine ⟨last_max (asc_dnums h) hk fun y hy => ?_, ?_⟩
  · rw [mem_dnums h] at hy
    by_cases hlt : i < y / 64
    · rw [hz _ hlt] at hy; simp at hy
    · by_cases he : y / 64 = i
      · rw [he] at hy
        by_cases hj : c < y % 64
        · rw [hhigh _ hj (Nat.mod_lt _ (by decide))] at hy; cases hy
        · omega
      · omega
  · unfold anyW; rw [decide_eq_true_iff]; intro e; rw [e] at hk; simp at hk
theorem zero_all {W : List Nat} (h : W64 W) (hz : ∀ j, j < W.length → W.getD j 0 = 0) : dnums W = [] := by
  rcases List.eq_nil_or_concat (dnums W) with e | ⟨l, a, e⟩
  · exact e
  · exfalso
    have hk : a ∈ dnums W := by rw [e]; simp
    have hlt := dnums_lt h hk
    rw [mem_dnums h, hz _ (by omega)] at hk
    simp at hk
end Bam
