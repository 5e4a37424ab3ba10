/- Plain law: a list put in order by counting; counting below a number in an ordered list. No program in sight. -/
namespace Go.Proofs.Ytepjailijekepaa.Ism
set_option linter.unusedVariables false

/-- element j stands before element i -/
def before (xs : List Int) (i j : Nat) : Bool := decide (xs.getD j 0 < xs.getD i 0) || (decide (xs.getD j 0 = xs.getD i 0) && decide (j < i))

/-- how many of the first k elements stand before element i -/
def cnt (xs : List Int) (i : Nat) : Nat → Nat
  | 0 => 0
  | k + 1 => cnt xs i k + if before xs i k then 1 else 0

theorem cnt_le (xs : List Int) (i k : Nat) : cnt xs i k ≤ k := by
  induction k with
  | zero => exact Nat.le_refl _
  | succ k ih => simp only [cnt]; split <;> omega

/-- the list behind k stores -/
def outAt (xs : List Int) : Nat → List Int
  | 0 => List.replicate xs.length 0
  | k + 1 => (outAt xs k).set (cnt xs k xs.length) (xs.getD k 0)

theorem outAt_length (xs : List Int) (k : Nat) : (outAt xs k).length = xs.length := by
  induction k with
  | zero => simp [outAt]
  | succ k ih => simp [outAt, ih]

theorem before_trans (xs : List Int) (a b c : Nat) (h1 : before xs b a = true) (h2 : before xs c b = true) : before xs c a = true := by
  simp only [before, Bool.or_eq_true, Bool.and_eq_true, decide_eq_true_eq] at *
  omega
theorem before_irr (xs : List Int) (a : Nat) : before xs a a = false := by
  simp [before]
theorem before_total (xs : List Int) (a b : Nat) (h : a ≠ b) : before xs a b = true ∨ before xs b a = true := by
  simp only [before, Bool.or_eq_true, Bool.and_eq_true, decide_eq_true_eq]
  omega

theorem cnt_mono (xs : List Int) (i j k : Nat) (h : ∀ m, before xs i m = true → before xs j m = true) : cnt xs i k ≤ cnt xs j k := by
  induction k with
  | zero => exact Nat.le_refl _
  | succ k ih =>
    simp only [cnt]
    by_cases hb : before xs i k = true
    · rw [if_pos hb, if_pos (h k hb)]; omega
    · rw [if_neg hb]; split <;> omega

theorem cnt_lt (xs : List Int) (i j k : Nat) (hi : i < k) (hb : before xs j i = true) : cnt xs i k < cnt xs j k := by
  induction k with
  | zero => omega
  | succ k ih =>
    have hm : ∀ m, before xs i m = true → before xs j m = true := fun m h => before_trans xs m i j h hb
    simp only [cnt]
    by_cases e : i = k
    · subst e
      rw [before_irr, hb]
      have := cnt_mono xs i j i hm
      simp
      omega
    · have := ih (by omega)
      by_cases hb2 : before xs i k = true
      · rw [if_pos hb2, if_pos (hm k hb2)]; omega
      · rw [if_neg hb2]; split <;> omega

/-- the place of element i -/
def rank (xs : List Int) (i : Nat) : Nat := cnt xs i xs.length

theorem cnt_bound (xs : List Int) (i k : Nat) (hi : i < k) : cnt xs i k < k := by
  induction k with
  | zero => omega
  | succ k ih =>
    simp only [cnt]
    by_cases e : i = k
    · subst e; rw [before_irr]; have := cnt_le xs i i; simp; omega
    · have := ih (by omega); split <;> omega

theorem rank_lt (xs : List Int) (i : Nat) (hi : i < xs.length) : rank xs i < xs.length := cnt_bound xs i _ hi

theorem rank_inj (xs : List Int) (i j : Nat) (hi : i < xs.length) (hj : j < xs.length) (h : rank xs i = rank xs j) : i = j := by
  by_cases e : i = j
  · exact e
  · rcases before_total xs i j e with b | b
    · have := cnt_lt xs j i xs.length hj b; unfold rank at h; omega
    · have := cnt_lt xs i j xs.length hi b; unfold rank at h; omega

/-- a list of n different numbers below n is all of them -/
theorem nodup_le (n : Nat) : ∀ (l : List Nat), l.Nodup → (∀ x ∈ l, x < n) → l.length ≤ n := by
  induction n with
  | zero => intro l _ h; cases l with
    | nil => simp
    | cons a l => have := h a (by simp); omega
  | succ n ih =>
    intro l hn h
    by_cases hm : n ∈ l
    · have hp := List.length_erase_of_mem hm
      have := ih (l.erase n) (hn.erase n) (fun x hx => by
        have hx' := (hn.mem_erase_iff).1 hx
        have := h x hx'.2
        omega)
      omega
    · have := ih l hn (fun x hx => by
        have := h x hx
        have hne : x ≠ n := fun e => hm (e ▸ hx)
        omega)
      omega

theorem nodup_all (n : Nat) (l : List Nat) (hn : l.Nodup) (h : ∀ x ∈ l, x < n) (hl : l.length = n) (p : Nat) (hp : p < n) : p ∈ l := by
  by_cases hm : p ∈ l
  · exact hm
  · have := nodup_le n (p :: l) (List.nodup_cons.2 ⟨hm, hn⟩) (by
      intro x hx
      rcases List.mem_cons.1 hx with rfl | hx
      · exact hp
      · exact h x hx)
    simp at this
    omega

theorem ranks_nodup (xs : List Int) : ((List.range xs.length).map (rank xs)).Nodup := by
  rw [List.nodup_iff_pairwise_ne, List.pairwise_map]
  refine List.Pairwise.imp_of_mem ?_ (List.nodup_iff_pairwise_ne.1 List.nodup_range)
  intro a b ha hb hne e
  exact hne (rank_inj xs a b (List.mem_range.1 ha) (List.mem_range.1 hb) e)

theorem rank_onto (xs : List Int) (p : Nat) (hp : p < xs.length) : ∃ i, i < xs.length ∧ rank xs i = p := by
  have := nodup_all xs.length ((List.range xs.length).map (rank xs)) (ranks_nodup xs) (by
    intro x hx
    obtain ⟨i, hi, rfl⟩ := List.mem_map.1 hx
    exact rank_lt xs i (List.mem_range.1 hi)) (by simp) p hp
  obtain ⟨i, hi, e⟩ := List.mem_map.1 this
  exact ⟨i, List.mem_range.1 hi, e⟩

/-- behind k stores the elements stored stand at their places -/
theorem outAt_get (xs : List Int) (k : Nat) (hk : k ≤ xs.length) (i : Nat) (hi : i < k) : (outAt xs k).getD (rank xs i) 0 = xs.getD i 0 := by
  induction k with
  | zero => omega
  | succ k ih =>
    simp only [outAt]
    have hl := outAt_length xs k
    have hr := rank_lt xs i (by omega)
    have hr2 := rank_lt xs k (by omega)
    simp only [List.getD_eq_getElem?_getD]
    by_cases e : i = k
    · subst e
      rw [show cnt xs i xs.length = rank xs i from rfl, List.getElem?_set_self (by omega)]
      simp
    · have hne : rank xs k ≠ rank xs i := fun h => e (rank_inj xs k i (by omega) (by omega) h).symm
      rw [show cnt xs k xs.length = rank xs k from rfl, List.getElem?_set_ne hne]
      have := ih (by omega) (by omega)
      simpa [List.getD_eq_getElem?_getD] using this

def sorted (xs : List Int) : List Int := outAt xs xs.length

theorem sorted_length (xs : List Int) : (sorted xs).length = xs.length := outAt_length _ _

theorem sorted_rank (xs : List Int) (i : Nat) (hi : i < xs.length) : (sorted xs).getD (rank xs i) 0 = xs.getD i 0 := outAt_get xs _ (Nat.le_refl _) i hi

theorem sorted_perm (xs : List Int) : (sorted xs).Perm xs := by
  have e1 : sorted xs = (List.range xs.length).map (fun p => (sorted xs).getD p 0) := by
    apply List.ext_getElem?
    intro p
    by_cases hp : p < xs.length
    · simp [hp, sorted_length]
    · simp [hp, sorted_length]
  have e2 : xs = (List.range xs.length).map (fun p => xs.getD p 0) := by
    apply List.ext_getElem?
    intro p
    by_cases hp : p < xs.length
    · simp [hp]
    · simp [hp]
  have hperm : ((List.range xs.length).map (rank xs)).Perm (List.range xs.length) := by
    apply (List.perm_ext_iff_of_nodup (ranks_nodup xs) List.nodup_range).2
    intro p
    rw [List.mem_range, List.mem_map]
    constructor
    · rintro ⟨i, hi, rfl⟩; exact rank_lt xs i (List.mem_range.1 hi)
    · intro hp
      obtain ⟨i, hi, e⟩ := rank_onto xs p hp
      exact ⟨i, List.mem_range.2 hi, e⟩
  have hm := hperm.map (fun p => (sorted xs).getD p 0)
  rw [List.map_map, ← e1] at hm
  refine hm.symm.trans ?_
  conv => rhs; rw [e2]
  apply List.Perm.of_eq
  apply List.map_congr_left
  intro i hi
  exact sorted_rank xs i (List.mem_range.1 hi)

theorem sorted_le (xs : List Int) (p q : Nat) (hpq : p < q) (hq : q < xs.length) : (sorted xs).getD p 0 ≤ (sorted xs).getD q 0 := by
  obtain ⟨i, hi, rfl⟩ := rank_onto xs p (by omega)
  obtain ⟨j, hj, rfl⟩ := rank_onto xs q hq
  rw [sorted_rank xs i hi, sorted_rank xs j hj]
  by_cases h : xs.getD i 0 ≤ xs.getD j 0
  · exact h
  · have b : before xs i j = true := by simp only [before, Bool.or_eq_true, Bool.and_eq_true, decide_eq_true_eq]; omega
    have := cnt_lt xs j i xs.length hj b
    unfold rank at hpq
    omega

/-- how many numbers of a list are below x -/
def less (x : Int) (l : List Int) : Nat := l.countP (fun y => decide (y < x))

theorem less_perm (x : Int) {l l' : List Int} (h : l.Perm l') : less x l = less x l' := h.countP_eq _

/-- in an ordered list: a place below which all are less than x, and from which on none is -/
theorem less_split (x : Int) (l : List Int) (i : Nat) (hi : i ≤ l.length) (h1 : ∀ p, p < i → l.getD p 0 < x) (h2 : ∀ p, i ≤ p → p < l.length → x ≤ l.getD p 0) : less x l = i := by
  unfold less
  have e : l = l.take i ++ l.drop i := (List.take_append_drop i l).symm
  rw [e, List.countP_append]
  have a : (l.take i).countP (fun y => decide (y < x)) = (l.take i).length := by
    rw [List.countP_eq_length]
    intro y hy
    obtain ⟨p, hp, rfl⟩ := List.mem_iff_getElem.1 hy
    have hp' : p < i ∧ p < l.length := by simp at hp; omega
    have := h1 p hp'.1
    simp [hp'.2] at this ⊢
    exact this
  have b : (l.drop i).countP (fun y => decide (y < x)) = 0 := by
    rw [List.countP_eq_zero]
    intro y hy
    obtain ⟨p, hp, rfl⟩ := List.mem_iff_getElem.1 hy
    have hp' : p < l.length - i := by simpa using hp
    have hlt : i + p < l.length := by omega
    have := h2 (i + p) (by omega) hlt
    simp [hlt] at this ⊢
    exact this
  rw [a, b, List.length_take]
  omega

/-- whether a number is in a list, by its place -/
theorem mem_at (x : Int) (l : List Int) (i : Nat) (h1 : ∀ p, p < i → l.getD p 0 < x) (h2 : ∀ p q, p < q → q < l.length → l.getD p 0 ≤ l.getD q 0) (h3 : ∀ p, i ≤ p → p < l.length → x ≤ l.getD p 0) :
    x ∈ l ↔ (i < l.length ∧ l.getD i 0 = x) := by
  constructor
  · intro hx
    obtain ⟨p, hp, e⟩ := List.mem_iff_getElem.1 hx
    have ep : l.getD p 0 = x := by simp [hp, e]
    by_cases hpi : p < i
    · have := h1 p hpi; omega
    · have := h3 i (Nat.le_refl _) (by omega)
      by_cases e2 : p = i
      · subst e2; exact ⟨hp, ep⟩
      · have := h2 i p (by omega) hp
        exact ⟨by omega, by omega⟩
  · rintro ⟨hi, e⟩
    simp [hi] at e
    exact e ▸ List.getElem_mem hi

end Go.Proofs.Ytepjailijekepaa.Ism
