/- Bit arrays: the bits from one on, word by word, the lowest bit first. No program in sight. -/
import Derived.Test.YtidekgmpbcnfmaaBaMath3
namespace Bam
set_option linter.unusedVariables false
open Go.Proofs.Ytidekgmpbcnfmaa

theorem mem_from {S : List Nat} (h : Asc S) (k x : Nat) : x ∈ S.drop (sAt S k) ↔ x ∈ S ∧ k ≤ x := by
  constructor
  · intro hx; exact ⟨List.mem_of_mem_drop hx, sAt_drop h k x hx⟩
  · rintro ⟨h1, h2⟩
    rcases (mem_split S (sAt S k) x).1 h1 with e | e
    · have := sAt_take S k x e; omega
    · exact e
theorem asc_drop {S : List Nat} (h : Asc S) (n : Nat) : Asc (S.drop n) := List.Pairwise.sublist (List.drop_sublist _ _) h

/-- the bits from one on -/
def fromP (ps : Ps) (k : Nat) : List Nat :=
  match ps.drop (pos ps (k / 64)) with
  | [] => []
  | (i, w) :: qs => if i = k / 64 then ((bitsOf (w / 2 ^ (k % 64))).map fun j => j + i * 64 + k % 64) ++ nums qs else nums ((i, w) :: qs)

theorem pos_drop {ps : Ps} (h : Ok ps) (i : Nat) : (∀ q ∈ ps.take (pos ps i), q.1 < i) ∧ ∀ q ∈ ps.drop (pos ps i), i ≤ q.1 := by
  induction ps with
  | nil => exact ⟨fun q hq => by simp at hq, fun q hq => by simp at hq⟩
  | cons q ps ih =>
    obtain ⟨i1, i2⟩ := ih h.tail
    rw [pos_cons]
    split
    · rename_i c
      rw [List.take_succ_cons, List.drop_succ_cons]
      refine ⟨fun x hx => ?_, i2⟩
      rcases List.mem_cons.1 hx with e | e
      · rw [e]; exact c
      · exact i1 x e
    · rename_i c
      refine ⟨fun x hx => by simp at hx, fun x hx => ?_⟩
      rw [List.drop_zero] at hx
      rcases List.mem_cons.1 hx with e | e
      · rw [e]; omega
      · have := h.head x e; omega
theorem Ok.drop {ps : Ps} (h : Ok ps) (n : Nat) : Ok (ps.drop n) := ⟨by rw [List.map_drop]; exact asc_drop h.1 n, fun q hq => h.2 q (List.mem_of_mem_drop hq)⟩

theorem nums_split {ps : Ps} (n : Nat) : nums ps = nums (ps.take n) ++ nums (ps.drop n) := by rw [← nums_append, List.take_append_drop]
theorem nums_key {ps : Ps} {x : Nat} (hx : x ∈ nums ps) : ∃ q ∈ ps, q.1 = x / 64 := by
  unfold nums at hx
  obtain ⟨q, hq, h2⟩ := List.mem_flatMap.1 hx
  exact ⟨q, hq, ((mem_word (i := q.1)).1 h2).1.symm⟩

theorem from_ok {ps : Ps} (h : Ok ps) (k : Nat) : fromP ps k = (nums ps).drop (sAt (nums ps) k) := by
  obtain ⟨p1, p2⟩ := pos_drop h (k / 64)
  have hd := h.drop (pos ps (k / 64))
  have key : ∀ L : List Nat, Asc L → (∀ x, x ∈ L ↔ x ∈ nums (ps.drop (pos ps (k / 64))) ∧ k ≤ x) → L = (nums ps).drop (sAt (nums ps) k) := by
    intro L hL hm
    refine asc_ext _ _ hL (asc_drop (asc_nums h) _) fun x => ?_
    rw [hm, mem_from (asc_nums h), nums_split (ps := ps) (pos ps (k / 64)), List.mem_append]
    constructor
    · rintro ⟨a, b⟩; exact ⟨.inr a, b⟩
    · rintro ⟨a | a, b⟩
      · obtain ⟨q, hq, e⟩ := nums_key a
        have := p1 q hq
        omega
      · exact ⟨a, b⟩
  unfold fromP
  refine key _ ?_ ?_
  · split
    · exact Asc.nil
    · rename_i i w qs e
      rw [e] at hd
      split
      · rw [asc_append]
        refine ⟨?_, asc_nums hd.tail, fun x hx y hy => ?_⟩
        · unfold Asc
          rw [List.pairwise_map]
          exact (asc_bitsOf _).imp fun h => by omega
        · obtain ⟨j, hj, rfl⟩ := List.mem_map.1 hx
          have h1 := nums_ge (b := i + 1) (fun q hq => by have := hd.head q hq; simp only at this; omega) y hy
          obtain ⟨h2, h3⟩ := mem_bitsOf.1 hj
          have h4 : j + k % 64 < 64 := by
            rw [Nat.testBit_div_two_pow] at h3
            have hw := hd.2 (i, w) List.mem_cons_self
            simp only at hw
            by_cases c : j + k % 64 < 64
            · exact c
            · rw [Nat.testBit_lt_two_pow (Nat.lt_of_lt_of_le hw (Nat.pow_le_pow_right (by decide) (by omega)))] at h3
              cases h3
          omega
      · exact asc_nums hd
  · intro x
    split
    · rename_i e; rw [e]; simp [nums]
    · rename_i i w qs e
      rw [e] at hd p2
      rw [e]
      have hw := hd.2 (i, w) List.mem_cons_self
      simp only at hw
      split
      · rename_i ei
        have e2 : nums ((i, w) :: qs) = (bitsOf w).map (fun j => j + i * 64) ++ nums qs := by unfold nums; rw [List.flatMap_cons]
        rw [e2, List.mem_append, List.mem_append, mem_word, List.mem_map]
        constructor
        · rintro (⟨j, hj, rfl⟩ | hx)
          · obtain ⟨h2, h3⟩ := mem_bitsOf.1 hj
            rw [Nat.testBit_div_two_pow] at h3
            have h4 : j + k % 64 < 64 := by
              by_cases c : j + k % 64 < 64
              · exact c
              · rw [Nat.testBit_lt_two_pow (Nat.lt_of_lt_of_le hw (Nat.pow_le_pow_right (by decide) (by omega)))] at h3
                cases h3
            refine ⟨.inl ⟨by omega, ?_⟩, by omega⟩
            rw [show (j + i * 64 + k % 64) % 64 = j + k % 64 from by omega]
            exact h3
          · obtain ⟨q, hq, e⟩ := nums_key hx
            have := hd.head q hq
            simp only at this
            exact ⟨.inr hx, by omega⟩
        · rintro ⟨⟨h1, h2⟩ | h1, h3⟩
          · refine .inl ⟨x % 64 - k % 64, mem_bitsOf.2 ⟨by omega, ?_⟩, by omega⟩
            rw [Nat.testBit_div_two_pow, show x % 64 - k % 64 + k % 64 = x % 64 from by omega]
            exact h2
          · exact .inr h1
      · rename_i ei
        constructor
        · intro hx
          obtain ⟨q, hq, e⟩ := nums_key hx
          have := p2 q hq
          have := p2 (i, w) List.mem_cons_self
          simp only at this
          rcases List.mem_cons.1 hq with e3 | e3
          · rw [e3] at e; simp only at e; exact ⟨hx, by omega⟩
          · have := hd.head q e3; simp only at this; exact ⟨hx, by omega⟩
        · exact fun h => h.1

/-- the lowest bit of a word and the others -/
theorem bits_low {w c : Nat} (hw : w < 2 ^ 64) (h1 : w.testBit c = true) (h2 : ∀ j, j < c → w.testBit j = false) : bitsOf w = c :: bitsOf (w ^^^ 2 ^ c) := by
  have hc : c < 64 := by
    by_cases h : c < 64
    · exact h
    · rw [Nat.testBit_lt_two_pow (Nat.lt_of_lt_of_le hw (Nat.pow_le_pow_right (by decide) (by omega)))] at h1; cases h1
  refine asc_ext _ _ (asc_bitsOf w) (asc_cons.2 ⟨fun y hy => ?_, asc_bitsOf _⟩) fun x => ?_
  · obtain ⟨h3, h4⟩ := mem_bitsOf.1 hy
    rw [Nat.testBit_xor, Nat.testBit_two_pow] at h4
    by_cases e : y < c
    · rw [h2 y e] at h4; simp at h4; omega
    · by_cases e2 : c = y
      · subst e2; rw [h1] at h4; simp at h4
      · omega
  · rw [List.mem_cons, mem_bitsOf, mem_bitsOf, Nat.testBit_xor, Nat.testBit_two_pow]
    by_cases e : x = c
    · subst e; simp [hc, h1]
    · have : c ≠ x := fun h => e h.symm
      simp [e, this]
end Bam
