/- Plain law: lists of bits and the places of those that are set. No program in sight. -/
namespace Go.Proofs.Ytbcbkieebelleaa.Bsm
set_option linter.unusedVariables false

/-- the places below i whose bit is set -/
def posn (bs : List Bool) : Nat → List Nat
  | 0 => []
  | i + 1 => posn bs i ++ (if bs.getD i false = true then [i] else [])
def pos (bs : List Bool) : List Nat := posn bs bs.length

theorem mem_posn (bs : List Bool) (i j : Nat) : j ∈ posn bs i ↔ j < i ∧ bs.getD j false = true := by
  induction i with
  | zero => simp [posn]
  | succ i ih =>
    simp only [posn, List.mem_append, ih]
    by_cases h : bs.getD i false = true
    · rw [if_pos h]
      simp only [List.mem_singleton]
      constructor
      · rintro (h1 | rfl)
        · exact ⟨by omega, h1.2⟩
        · exact ⟨by omega, h⟩
      · rintro ⟨h1, h2⟩
        by_cases e : j = i
        · exact .inr e
        · exact .inl ⟨by omega, h2⟩
    · rw [if_neg h]
      simp only [List.not_mem_nil, or_false]
      constructor
      · rintro ⟨h1, h2⟩; exact ⟨by omega, h2⟩
      · rintro ⟨h1, h2⟩
        exact ⟨by
          by_cases e : j = i
          · subst e; exact absurd h2 h
          · omega, h2⟩

theorem posn_len (bs : List Bool) (i : Nat) : (posn bs i).length ≤ i := by
  induction i with
  | zero => simp [posn]
  | succ i ih => simp only [posn, List.length_append]; split <;> simp <;> omega

theorem getD_out (bs : List Bool) (i : Nat) (h : bs.length ≤ i) : bs.getD i false = false := by
  simp [List.getD_eq_getElem?_getD, List.getElem?_eq_none h]

theorem mem_pos (bs : List Bool) (j : Nat) : j ∈ pos bs ↔ bs.getD j false = true := by
  unfold pos
  rw [mem_posn]
  constructor
  · exact fun h => h.2
  · intro h
    refine ⟨?_, h⟩
    by_cases e : j < bs.length
    · exact e
    · rw [getD_out bs j (by omega)] at h; cases h

theorem posn_lt (bs : List Bool) (i : Nat) : ∀ x ∈ posn bs i, x < i := fun x hx => ((mem_posn bs i x).1 hx).1

theorem pos_lt (bs : List Bool) : ∀ x ∈ pos bs, x < bs.length := posn_lt bs _

/-- positions depend on the bits alone -/
theorem posn_congr (bs cs : List Bool) (i : Nat) (h : ∀ j, j < i → bs.getD j false = cs.getD j false) : posn bs i = posn cs i := by
  induction i with
  | zero => rfl
  | succ i ih => simp only [posn]; rw [ih (fun j hj => h j (by omega)), h i (by omega)]

/-- ascending -/
theorem posn_sorted (bs : List Bool) (i : Nat) : (posn bs i).Pairwise (· < ·) := by
  induction i with
  | zero => exact List.Pairwise.nil
  | succ i ih =>
    simp only [posn]
    split
    · rw [List.pairwise_append]
      refine ⟨ih, List.pairwise_singleton _ _, ?_⟩
      intro a ha b hb
      rw [List.mem_singleton] at hb
      subst hb
      exact posn_lt bs _ a ha
    · simpa using ih

/-- the bits that the first k places set -/
def fill (L : Nat) (ps : List Nat) : Nat → List Bool
  | 0 => List.replicate L false
  | k + 1 => (fill L ps k).set (ps.getD k 0) true

theorem fill_len (L : Nat) (ps : List Nat) (k : Nat) : (fill L ps k).length = L := by
  induction k with
  | zero => simp [fill]
  | succ k ih => simp [fill, ih]

theorem fill_get (L : Nat) (ps : List Nat) (k : Nat) (hk : k ≤ ps.length) (j : Nat) (hj : j < L) : (fill L ps k).getD j false = decide (j ∈ ps.take k) := by
  induction k with
  | zero => simp [fill, List.getD_eq_getElem?_getD, hj]
  | succ k ih =>
    have ih' := ih (by omega)
    simp only [fill, List.getD_eq_getElem?_getD] at ih' ⊢
    have hkl : k < ps.length := by omega
    have hget : ps[k]?.getD 0 = ps[k] := by simp [hkl]
    rw [hget, List.take_succ_eq_append_getElem hkl]
    by_cases e : ps[k] = j
    · subst e
      rw [List.getElem?_set_self (by rw [fill_len]; exact hj)]
      simp only [List.mem_append, List.mem_singleton, Option.getD_some]
      simp
    · rw [List.getElem?_set_ne e, ih', Bool.eq_iff_iff, decide_eq_true_eq, decide_eq_true_eq]
      simp only [List.mem_append, List.mem_singleton]
      constructor
      · exact fun h => .inl h
      · rintro (h | h)
        · exact h
        · exact absurd h.symm e

theorem ext_getD (a b : List Bool) (hl : a.length = b.length) (h : ∀ j, j < a.length → a.getD j false = b.getD j false) : a = b := by
  apply List.ext_getElem hl
  intro j h1 h2
  have := h j h1
  simpa [h1, h2] using this

theorem fill_pos (bs : List Bool) : fill bs.length (pos bs) (pos bs).length = bs := by
  apply ext_getD _ _ (fill_len _ _ _)
  intro j hj
  rw [fill_len] at hj
  rw [fill_get _ _ _ (Nat.le_refl _) j hj, List.take_length]
  rw [Bool.eq_iff_iff, decide_eq_true_eq, mem_pos]

theorem pos_getD_lt (bs : List Bool) (k : Nat) (hk : k < (pos bs).length) : (pos bs).getD k 0 < bs.length := by
  have : (pos bs).getD k 0 ∈ pos bs := by simp [hk]
  exact pos_lt bs _ this

theorem pos_len_le (bs : List Bool) : (pos bs).length ≤ bs.length := posn_len _ _

/-- 'BSGrow' -/
def grow (bs : List Bool) (n : Nat) : List Bool := bs ++ List.replicate (n - bs.length) false

theorem grow_get (bs : List Bool) (n j : Nat) : (grow bs n).getD j false = bs.getD j false := by
  unfold grow
  simp only [List.getD_eq_getElem?_getD, List.getElem?_append]
  split
  · rfl
  · rename_i h
    rw [List.getElem?_eq_none (l := bs) (by omega)]
    by_cases h2 : j - bs.length < n - bs.length
    · simp [h2]
    · simp [h2]
theorem grow_len (bs : List Bool) (n : Nat) : (grow bs n).length = max bs.length n := by
  unfold grow; simp; omega


/-- bit j of some words -/
def bit (ws : List Nat) (j : Nat) : Bool := (ws.getD (j / 64) 0).testBit (j % 64)
/-- one word is changed -/
def upd (f : Nat → Nat) (ws : List Nat) (i : Nat) : List Nat := ws.set (i / 64) (f (ws.getD (i / 64) 0))

theorem upd_len (f : Nat → Nat) (ws : List Nat) (i : Nat) : (upd f ws i).length = ws.length := by simp [upd]

theorem bit_upd (f : Nat → Nat) (ws : List Nat) (i : Nat) (hi : i / 64 < ws.length) (j : Nat) :
    bit (upd f ws i) j = if j / 64 = i / 64 then (f (ws.getD (i / 64) 0)).testBit (j % 64) else bit ws j := by
  unfold bit upd
  simp only [List.getD_eq_getElem?_getD]
  by_cases h : j / 64 = i / 64
  · rw [if_pos h, h, List.getElem?_set_self hi]; rfl
  · rw [if_neg h, List.getElem?_set_ne (fun e => h e.symm)]

theorem mod_eq (i j : Nat) (h : j / 64 = i / 64) : (i % 64 = j % 64) ↔ j = i := by omega

/-- setting, turning and clearing a bit -/
def orw (ws : List Nat) (i : Nat) : List Nat := upd (fun x => x ||| 2 ^ (i % 64)) ws i
def xorw (ws : List Nat) (i : Nat) : List Nat := upd (fun x => x ^^^ 2 ^ (i % 64)) ws i

theorem bit_orw (ws : List Nat) (i : Nat) (hi : i / 64 < ws.length) (j : Nat) : bit (orw ws i) j = (bit ws j || decide (j = i)) := by
  unfold orw
  rw [bit_upd _ _ _ hi]
  split
  · rename_i h
    rw [Nat.testBit_or, Nat.testBit_two_pow]
    unfold bit
    rw [h]
    congr 1
    rw [decide_eq_decide]
    exact mod_eq i j h
  · rename_i h
    have : j ≠ i := fun e => h (by rw [e])
    simp [this]
theorem bit_xorw (ws : List Nat) (i : Nat) (hi : i / 64 < ws.length) (j : Nat) : bit (xorw ws i) j = (bit ws j ^^ decide (j = i)) := by
  unfold xorw
  rw [bit_upd _ _ _ hi]
  split
  · rename_i h
    rw [Nat.testBit_xor, Nat.testBit_two_pow]
    unfold bit
    rw [h]
    congr 1
    rw [decide_eq_decide]
    exact mod_eq i j h
  · rename_i h
    have : j ≠ i := fun e => h (by rw [e])
    simp [this]

theorem bit_zeros (n j : Nat) : bit (List.replicate n 0) j = false := by
  unfold bit
  have : (List.replicate n 0).getD (j / 64) 0 = 0 := by
    simp only [List.getD_eq_getElem?_getD, List.getElem?_replicate]
    split <;> rfl
  rw [this, Nat.zero_testBit]

theorem bit_append_zeros (ws : List Nat) (n j : Nat) : bit (ws ++ List.replicate n 0) j = bit ws j := by
  unfold bit
  congr 1
  simp only [List.getD_eq_getElem?_getD, List.getElem?_append]
  split
  · rfl
  · rename_i h
    rw [List.getElem?_eq_none (l := ws) (by omega), List.getElem?_replicate]
    split <;> rfl

/-- the bits of a bitset of length L -/
def bitsOf (ws : List Nat) (L : Nat) : List Bool := (List.range L).map (bit ws)
theorem bitsOf_len (ws : List Nat) (L : Nat) : (bitsOf ws L).length = L := by simp [bitsOf]
theorem bitsOf_get (ws : List Nat) (L j : Nat) : (bitsOf ws L).getD j false = (decide (j < L) && bit ws j) := by
  unfold bitsOf
  simp only [List.getD_eq_getElem?_getD, List.getElem?_map, List.getElem?_range']
  by_cases h : j < L
  · simp [h]
  · simp [h]

end Go.Proofs.Ytbcbkieebelleaa.Bsm
