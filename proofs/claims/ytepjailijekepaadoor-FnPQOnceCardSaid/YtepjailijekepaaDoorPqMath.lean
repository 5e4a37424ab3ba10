/- A binary heap as a list, its elements compared by their first number: pushing up, pulling down. No program in sight. -/
import Derived.Lib.Hide
namespace Go.Proofs.YtepjailijekepaaDoor
set_option linter.unusedVariables false

namespace Pqm
abbrev It := Int × Int
def dI : It := (0, 0)
/-- the parent of a place -/
def par (i : Nat) : Nat := (i - 1) / 2
def key (h : List It) (i : Nat) : Int := (h.getD i dI).1
/-- no element is less than its parent -/
def Heap (h : List It) : Prop := ∀ i, 0 < i → i < h.length → key h (par i) ≤ key h i
/-- a heap but for the element at a place, which may be less than its parent -/
def Up (h : List It) (k : Nat) : Prop := (∀ i, 0 < i → i < h.length → i ≠ k → key h (par i) ≤ key h i) ∧ ∀ i, 0 < i → i < h.length → par i = k → 0 < k → key h (par k) ≤ key h i
/-- a heap but for the element at a place, which may be greater than its children -/
def Down (h : List It) (k : Nat) : Prop := (∀ i, 0 < i → i < h.length → par i ≠ k → key h (par i) ≤ key h i) ∧ ∀ i, 0 < i → i < h.length → par i = k → 0 < k → key h (par k) ≤ key h i
/-- two places exchanged -/
def swp (h : List It) (i j : Nat) : List It := (h.set i (h.getD j dI)).set j (h.getD i dI)

theorem swp_len (h : List It) (i j : Nat) : (swp h i j).length = h.length := by simp [swp]
theorem getD_set (h : List It) (i k : Nat) (x : It) (hi : i < h.length) : (h.set i x).getD k dI = if i = k then x else h.getD k dI := by
  rw [List.getD_eq_getElem?_getD, List.getElem?_set]
  split
  · subst_vars; simp [hi]
  · rw [List.getD_eq_getElem?_getD]
theorem swp_at (h : List It) (i j k : Nat) (hi : i < h.length) (hj : j < h.length) : (swp h i j).getD k dI = if j = k then h.getD i dI else if i = k then h.getD j dI else h.getD k dI := by
  unfold swp
  rw [getD_set _ _ _ _ (by simpa using hj)]
  split
  · rfl
  · rw [getD_set _ _ _ _ hi]
theorem key_swp (h : List It) (i j k : Nat) (hi : i < h.length) (hj : j < h.length) : key (swp h i j) k = if j = k then key h i else if i = k then key h j else key h k := by
  unfold key
  rw [swp_at h i j k hi hj]
  split
  · rfl
  · split <;> rfl
theorem swp_perm (h : List It) (i j : Nat) (hi : i < h.length) (hj : j < h.length) : (swp h i j).Perm h := by
  rw [List.perm_iff_count]
  intro a
  unfold swp
  have e1 : h.getD i dI = h[i] := by rw [List.getD_eq_getElem?_getD, List.getElem?_eq_getElem hi]; rfl
  have e2 : h.getD j dI = h[j] := by rw [List.getD_eq_getElem?_getD, List.getElem?_eq_getElem hj]; rfl
  rw [e1, e2, List.count_set (by simpa using hj), List.count_set hi]
  have hp1 : h[i] == a → 0 < h.count a := fun e => by
    have e : h[i] = a := by simpa using e
    rw [← e]; exact List.count_pos_iff.2 (List.getElem_mem hi)
  have hp2 : h[j] == a → 0 < h.count a := fun e => by
    have e : h[j] = a := by simpa using e
    rw [← e]; exact List.count_pos_iff.2 (List.getElem_mem hj)
  rw [List.getElem_set]
  by_cases hij : i = j
  · subst hij
    simp only [if_true]
    by_cases hb : (h[i] == a) = true
    · have := hp1 hb; simp only [hb, if_true]; omega
    · simp [hb]
  · simp only [hij, if_false]
    by_cases ha : (h[i] == a) = true <;> by_cases hb : (h[j] == a) = true
    · have := hp1 ha; simp only [ha, hb, if_true]; omega
    · have := hp1 ha; simp [ha, hb]; omega
    · have := hp2 hb; simp [ha, hb]
    · simp [ha, hb]

theorem par_lt {i : Nat} (h : 0 < i) : par i < i := by unfold par; omega

theorem up_end {h : List It} {k : Nat} (hu : Up h k) (hk : key h (par k) ≤ key h k) : Heap h := by
  intro i h0 hi
  by_cases e : i = k
  · subst e; exact hk
  · exact hu.1 i h0 hi e
theorem up_step {h : List It} {k : Nat} (hu : Up h k) (h0 : 0 < k) (hk : k < h.length) (hlt : key h k < key h (par k)) : Up (swp h k (par k)) (par k) := by
  have hpk := par_lt h0
  have hpl : par k < h.length := by omega
  have ks := fun m => key_swp h k (par k) m hk hpl
  refine ⟨fun i hi0 hi hne => ?_, fun i hi0 hi hpi hp0 => ?_⟩
  · rw [swp_len] at hi
    have hpi := par_lt hi0
    have k2 := ks i
    rw [if_neg (show ¬ par k = i from fun e => hne e.symm)] at k2
    have k1 := ks (par i)
    by_cases e : i = k
    · subst e
      rw [if_pos rfl] at k1 k2
      omega
    · rw [if_neg (show ¬ k = i from fun e2 => e e2.symm)] at k2
      by_cases e3 : par k = par i
      · rw [if_pos e3] at k1
        have := hu.1 i hi0 hi e
        rw [← e3] at this
        omega
      · rw [if_neg e3] at k1
        by_cases e4 : k = par i
        · rw [if_pos e4] at k1
          have := hu.2 i hi0 hi e4.symm h0
          omega
        · rw [if_neg e4] at k1
          have := hu.1 i hi0 hi e
          omega
  · rw [swp_len] at hi
    have hpp := par_lt hp0
    have hpi2 := par_lt hi0
    have k1 := ks (par (par k))
    rw [if_neg (show ¬ par k = par (par k) by omega), if_neg (show ¬ k = par (par k) by omega)] at k1
    have k2 := ks i
    rw [if_neg (show ¬ par k = i by omega)] at k2
    have h1 := hu.1 (par k) hp0 hpl (by omega)
    by_cases e : k = i
    · rw [if_pos e] at k2
      omega
    · rw [if_neg e] at k2
      have := hu.1 i hi0 hi (fun e2 => e e2.symm)
      rw [hpi] at this
      omega

theorem down_end {h : List It} {k : Nat} (hd : Down h k) (hk : ∀ i, 0 < i → i < h.length → par i = k → key h k ≤ key h i) : Heap h := by
  intro i h0 hi
  by_cases e : par i = k
  · rw [e]; exact hk i h0 hi e
  · exact hd.1 i h0 hi e
theorem down_step {h : List It} {k c : Nat} (hd : Down h k) (h0 : 0 < c) (hc : c < h.length) (hp : par c = k) (hlt : key h c < key h k) (hmin : ∀ i, 0 < i → i < h.length → par i = k → key h c ≤ key h i) : Down (swp h k c) c := by
  have hpc := par_lt h0
  have hkl : k < h.length := by omega
  have ks := fun m => key_swp h k c m hkl hc
  refine ⟨fun i hi0 hi hne => ?_, fun i hi0 hi hpi hp0 => ?_⟩
  · rw [swp_len] at hi
    have hpi := par_lt hi0
    have k1 := ks (par i)
    have k2 := ks i
    rw [if_neg (show ¬ c = par i from fun e => hne e.symm)] at k1
    by_cases e : c = i
    · subst e
      rw [if_pos hp.symm] at k1
      rw [if_pos rfl] at k2
      omega
    · rw [if_neg e] at k2
      by_cases e2 : k = par i
      · rw [if_pos e2] at k1
        rw [if_neg (show ¬ k = i by omega)] at k2
        have := hmin i hi0 hi e2.symm
        omega
      · rw [if_neg e2] at k1
        by_cases e3 : k = i
        · rw [if_pos e3] at k2
          subst e3
          have := hd.2 c h0 hc hp hi0
          omega
        · rw [if_neg e3] at k2
          have := hd.1 i hi0 hi (fun e4 => e2 e4.symm)
          omega
  · rw [swp_len] at hi
    have hpi2 := par_lt hi0
    have k1 := ks (par c)
    have k2 := ks i
    rw [if_neg (show ¬ c = par c by omega), if_pos hp.symm] at k1
    rw [if_neg (show ¬ c = i by omega), if_neg (show ¬ k = i by omega)] at k2
    have := hd.1 i hi0 hi (by omega)
    rw [hpi] at this
    omega

theorem heap_min {h : List It} (hh : Heap h) : ∀ i, i < h.length → key h 0 ≤ key h i := by
  intro i
  induction i using Nat.strongRecOn with
  | ind i ih =>
    intro hi
    by_cases e : i = 0
    · rw [e]; exact Int.le_refl _
    · have h1 := hh i (by omega) hi
      have h2 := par_lt (i := i) (by omega)
      have := ih (par i) h2 (by omega)
      omega

/-- pushing: the new element stands last -/
theorem push_start {h : List It} (hh : Heap h) (x : It) : Up (h ++ [x]) h.length := by
  have hk : ∀ i, i < h.length → key (h ++ [x]) i = key h i := fun i hi => by
    unfold key
    rw [List.getD_eq_getElem?_getD, List.getElem?_append_left hi, ← List.getD_eq_getElem?_getD]
  refine ⟨fun i h0 hi hne => ?_, fun i h0 hi hp hk0 => ?_⟩
  · simp at hi
    have := par_lt h0
    rw [hk i (by omega), hk _ (by omega)]
    exact hh i h0 (by omega)
  · simp at hi
    have := par_lt h0
    omega

/-- popping: the last element is exchanged with the first one, and left out -/
def cut (h : List It) : List It := (swp h (h.length - 1) 0).take (h.length - 1)
theorem cut_len (h : List It) : (cut h).length = h.length - 1 := by simp [cut, swp_len]
theorem cut_at (h : List It) (k : Nat) (hk : k < h.length - 1) : (cut h).getD k dI = if k = 0 then h.getD (h.length - 1) dI else h.getD k dI := by
  unfold cut
  rw [List.getD_eq_getElem?_getD, List.getElem?_take_of_lt hk, ← List.getD_eq_getElem?_getD, swp_at h _ _ _ (by omega) (by omega)]
  by_cases e : k = 0
  · rw [if_pos e.symm, if_pos e]
  · rw [if_neg (fun e2 => e e2.symm), if_neg (by omega), if_neg e]
theorem cut_start {h : List It} (hh : Heap h) : Down (cut h) 0 := by
  refine ⟨fun i h0 hi hne => ?_, fun i h0 hi hp hk0 => absurd hk0 (Nat.lt_irrefl _)⟩
  rw [cut_len] at hi
  have hp := par_lt h0
  unfold key
  rw [cut_at h i hi, cut_at h _ (by omega), if_neg hne, if_neg (by omega)]
  exact hh i h0 (by omega)
theorem take_snoc_getD (l : List It) (n : Nat) (h : l.length = n + 1) : l = l.take n ++ [l.getD n dI] := by
  have e : l.getD n dI = l[n] := by rw [List.getD_eq_getElem?_getD, List.getElem?_eq_getElem (by omega)]; rfl
  rw [e]
  have := List.take_append_drop n l
  rw [List.drop_eq_getElem_cons (by omega), List.drop_eq_nil_of_le (by omega)] at this
  exact this.symm
theorem cut_perm {h : List It} (h0 : 0 < h.length) : (h.getD 0 dI :: cut h).Perm h := by
  have hl : (swp h (h.length - 1) 0).length = (h.length - 1) + 1 := by rw [swp_len]; omega
  have h1 := take_snoc_getD _ _ hl
  have h2 : (swp h (h.length - 1) 0).getD (h.length - 1) dI = h.getD 0 dI := by
    rw [swp_at h _ _ _ (by omega) h0]
    split
    · rename_i e; rw [← e]
    · simp
  rw [h2] at h1
  have h3 := swp_perm h (h.length - 1) 0 (by omega) h0
  rw [h1] at h3
  exact (List.perm_append_singleton _ _).symm.trans h3
end Pqm
end Go.Proofs.YtepjailijekepaaDoor
