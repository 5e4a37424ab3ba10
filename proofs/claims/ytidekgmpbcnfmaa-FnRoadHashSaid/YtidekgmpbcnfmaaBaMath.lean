/- Bit arrays as lists of pairs (index, word), ascending by index; the set of their bits as an ascending list. No program in sight. -/
import Derived.Lib.Hide
namespace Bam
set_option linter.unusedVariables false

abbrev Ps := List (Nat × Nat)

/-- strictly ascending -/
def Asc (l : List Nat) : Prop := l.Pairwise (· < ·)
theorem Asc.nil : Asc [] := List.Pairwise.nil
theorem asc_cons {x : Nat} {l : List Nat} : Asc (x :: l) ↔ (∀ y ∈ l, x < y) ∧ Asc l := List.pairwise_cons

theorem asc_ext : ∀ (a b : List Nat), Asc a → Asc b → (∀ x, x ∈ a ↔ x ∈ b) → a = b
  | [], [], _, _, _ => rfl
  | [], y :: b, _, _, h => absurd ((h y).2 List.mem_cons_self) (by simp)
  | x :: a, [], _, _, h => absurd ((h x).1 List.mem_cons_self) (by simp)
  | x :: a, y :: b, ha, hb, h => by
    obtain ⟨h1, h2⟩ := asc_cons.1 ha
    obtain ⟨h3, h4⟩ := asc_cons.1 hb
    have e : x = y := by
      rcases List.mem_cons.1 ((h x).1 List.mem_cons_self) with e | e
      · exact e
      · rcases List.mem_cons.1 ((h y).2 List.mem_cons_self) with e' | e'
        · exact e'.symm
        · have := h1 y e'; have := h3 x e; omega
    subst e
    rw [asc_ext a b h2 h4 (fun z => ⟨fun hz => by
      rcases List.mem_cons.1 ((h z).1 (List.mem_cons_of_mem _ hz)) with e | e
      · have := h1 z hz; omega
      · exact e, fun hz => by
      rcases List.mem_cons.1 ((h z).2 (List.mem_cons_of_mem _ hz)) with e | e
      · have := h3 z hz; omega
      · exact e⟩)]

theorem asc_append {a b : List Nat} : Asc (a ++ b) ↔ Asc a ∧ Asc b ∧ ∀ x ∈ a, ∀ y ∈ b, x < y := List.pairwise_append

/-- the bits of a word -/
def bitsOf (w : Nat) : List Nat := (List.range 64).filter fun i => w.testBit i
theorem mem_bitsOf {w i : Nat} : i ∈ bitsOf w ↔ i < 64 ∧ w.testBit i = true := by simp [bitsOf]
theorem asc_bitsOf (w : Nat) : Asc (bitsOf w) := List.Pairwise.filter _ (by simpa using List.pairwise_lt_range)
theorem bits_zero (w : Nat) (h : w < 2 ^ 64) : w = 0 ↔ bitsOf w = [] := by
  constructor
  · intro e; subst e; simp [bitsOf]
  · intro e
    apply Nat.eq_of_testBit_eq
    intro i
    rw [Nat.zero_testBit]
    by_cases hi : i < 64
    · cases hb : w.testBit i with
      | false => rfl
      | true =>
        have : i ∈ bitsOf w := mem_bitsOf.2 ⟨hi, hb⟩
        rw [e] at this; simp at this
    · exact Nat.testBit_lt_two_pow (Nat.lt_of_lt_of_le h (Nat.pow_le_pow_right (by decide) (by omega)))

/-- the bits of an array -/
def nums (ps : Ps) : List Nat := ps.flatMap fun q => (bitsOf q.2).map fun i => i + q.1 * 64

/-- the word at an index -/
def look : Ps → Nat → Nat
  | [], _ => 0
  | (i, w) :: ps, k => if i = k then w else look ps k

/-- indices ascend, words are of 64 bits -/
def Ok (ps : Ps) : Prop := Asc (ps.map Prod.fst) ∧ ∀ q ∈ ps, q.2 < 2 ^ 64
/-- no word is 0 -/
def Nz (ps : Ps) : Prop := ∀ q ∈ ps, q.2 ≠ 0

theorem Ok.tail {q : Nat × Nat} {ps : Ps} (h : Ok (q :: ps)) : Ok ps := ⟨(asc_cons.1 h.1).2, fun x hx => h.2 x (List.mem_cons_of_mem _ hx)⟩
theorem Ok.head {q : Nat × Nat} {ps : Ps} (h : Ok (q :: ps)) : ∀ x ∈ ps, q.1 < x.1 := fun x hx => (asc_cons.1 h.1).1 _ (List.mem_map_of_mem hx)
theorem Ok.cons {q : Nat × Nat} {ps : Ps} (h : Ok ps) (h1 : ∀ x ∈ ps, q.1 < x.1) (h2 : q.2 < 2 ^ 64) : Ok (q :: ps) := by
  refine ⟨asc_cons.2 ⟨fun y hy => ?_, h.1⟩, fun x hx => ?_⟩
  · obtain ⟨x, hx, rfl⟩ := List.mem_map.1 hy; exact h1 x hx
  · rcases List.mem_cons.1 hx with e | e
    · rw [e]; exact h2
    · exact h.2 x e
theorem Nz.tail {q : Nat × Nat} {ps : Ps} (h : Nz (q :: ps)) : Nz ps := fun x hx => h x (List.mem_cons_of_mem _ hx)
theorem Ok.nil : Ok [] := ⟨List.Pairwise.nil, fun _ h => by simp at h⟩
theorem Nz.nil : Nz [] := fun _ h => by simp at h

theorem look_none {ps : Ps} {k : Nat} (h : ∀ q ∈ ps, q.1 ≠ k) : look ps k = 0 := by
  induction ps with
  | nil => rfl
  | cons q ps ih =>
    obtain ⟨i, w⟩ := q
    simp only [look]
    rw [if_neg (h (i, w) List.mem_cons_self), ih fun q hq => h q (List.mem_cons_of_mem _ hq)]
theorem look_lt {ps : Ps} (h : Ok ps) (k : Nat) : look ps k < 2 ^ 64 := by
  induction ps with
  | nil => exact Nat.two_pow_pos 64
  | cons q ps ih =>
    obtain ⟨i, w⟩ := q
    simp only [look]
    split
    · exact h.2 (i, w) List.mem_cons_self
    · exact ih h.tail
theorem look_mem {ps : Ps} (h : Ok ps) {i w : Nat} (hq : (i, w) ∈ ps) : look ps i = w := by
  induction ps with
  | nil => simp at hq
  | cons q ps ih =>
    obtain ⟨i', w'⟩ := q
    simp only [look]
    rcases List.mem_cons.1 hq with e | e
    · injection e with e1 e2; subst e1 e2; rw [if_pos rfl]
    · have := h.head _ e
      rw [if_neg (by simp only at this; omega)]
      exact ih h.tail e
theorem look_ne {ps : Ps} {k : Nat} (h : look ps k ≠ 0) : (k, look ps k) ∈ ps := by
  induction ps with
  | nil => exact absurd rfl h
  | cons q ps ih =>
    obtain ⟨i, w⟩ := q
    simp only [look] at h ⊢
    split
    · rename_i e; subst e; exact List.mem_cons_self
    · rename_i e
      rw [if_neg e] at h
      exact List.mem_cons_of_mem _ (ih h)

theorem mem_word {i w k : Nat} : k ∈ (bitsOf w).map (fun j => j + i * 64) ↔ k / 64 = i ∧ w.testBit (k % 64) = true := by
  rw [List.mem_map]
  constructor
  · rintro ⟨j, hj, rfl⟩
    obtain ⟨h1, h2⟩ := mem_bitsOf.1 hj
    rw [show (j + i * 64) / 64 = i from by omega, show (j + i * 64) % 64 = j from by omega]
    exact ⟨rfl, h2⟩
  · rintro ⟨rfl, h⟩
    exact ⟨k % 64, mem_bitsOf.2 ⟨Nat.mod_lt _ (by decide), h⟩, by omega⟩

theorem mem_nums {ps : Ps} (h : Ok ps) {k : Nat} : k ∈ nums ps ↔ (look ps (k / 64)).testBit (k % 64) = true := by
  induction ps with
  | nil => simp [nums, look]
  | cons q ps ih =>
    obtain ⟨i, w⟩ := q
    unfold nums at ih ⊢
    rw [List.flatMap_cons, List.mem_append, mem_word, ih h.tail]
    simp only [look]
    by_cases e : i = k / 64
    · rw [if_pos e, look_none (fun q hq => by have := h.head q hq; simp only at this; omega)]
      simp [e]
    · rw [if_neg e]
      constructor
      · rintro (⟨h1, _⟩ | h1)
        · exact absurd h1.symm e
        · exact h1
      · exact .inr

theorem nums_ge {ps : Ps} {b : Nat} (h : ∀ q ∈ ps, b ≤ q.1) : ∀ k ∈ nums ps, 64 * b ≤ k := by
  intro k hk
  unfold nums at hk
  obtain ⟨q, hq, h2⟩ := List.mem_flatMap.1 hk
  have := (mem_word (i := q.1)).1 h2
  have := h q hq
  omega

theorem asc_nums {ps : Ps} (h : Ok ps) : Asc (nums ps) := by
  induction ps with
  | nil => exact Asc.nil
  | cons q ps ih =>
    obtain ⟨i, w⟩ := q
    have e : nums ((i, w) :: ps) = (bitsOf w).map (fun j => j + i * 64) ++ nums ps := by unfold nums; rw [List.flatMap_cons]
    rw [e, asc_append]
    refine ⟨?_, ih h.tail, fun x hx y hy => ?_⟩
    · unfold Asc
      rw [List.pairwise_map]
      exact (asc_bitsOf w).imp fun h => by omega
    · have h1 := (mem_word (i := i)).1 hx
      have h2 := nums_ge (b := i + 1) (fun q hq => by have := h.head q hq; simp only at this; omega) y hy
      omega

theorem nums_ext {ps qs : Ps} (h : Ok ps) (h2 : Ok qs) (he : ∀ k, look ps k = look qs k) : nums ps = nums qs :=
  asc_ext _ _ (asc_nums h) (asc_nums h2) fun x => by rw [mem_nums h, mem_nums h2, he]

theorem look_of_nums {ps qs : Ps} (h : Ok ps) (h2 : Ok qs) (he : nums ps = nums qs) (k : Nat) : look ps k = look qs k := by
  apply Nat.eq_of_testBit_eq
  intro i
  by_cases hi : i < 64
  · have h3 := mem_nums h (k := i + k * 64)
    have h4 := mem_nums h2 (k := i + k * 64)
    rw [show (i + k * 64) / 64 = k from by omega, show (i + k * 64) % 64 = i from by omega] at h3 h4
    rw [he, h4] at h3
    exact (Bool.eq_iff_iff.2 h3).symm
  · have hp : 2 ^ 64 ≤ 2 ^ i := Nat.pow_le_pow_right (by decide) (by omega)
    rw [Nat.testBit_lt_two_pow (Nat.lt_of_lt_of_le (look_lt h k) hp), Nat.testBit_lt_two_pow (Nat.lt_of_lt_of_le (look_lt h2 k) hp)]

theorem ps_ext : ∀ {ps qs : Ps}, Ok ps → Ok qs → Nz ps → Nz qs → (∀ k, look ps k = look qs k) → ps = qs
  | [], [], _, _, _, _, _ => rfl
  | [], (j, b) :: qs, _, h2, _, n2, he => by
    have := he j
    rw [look_mem h2 List.mem_cons_self] at this
    exact absurd this.symm (n2 (j, b) List.mem_cons_self)
  | (i, a) :: ps, [], h1, _, n1, _, he => by
    have := he i
    rw [look_mem h1 List.mem_cons_self] at this
    exact absurd this (n1 (i, a) List.mem_cons_self)
  | (i, a) :: ps, (j, b) :: qs, h1, h2, n1, n2, he => by
    have key : ∀ {i a j b : Nat} {ps qs : Ps}, Ok ((i, a) :: ps) → Ok ((j, b) :: qs) → Nz ((i, a) :: ps) → (∀ k, look ((i, a) :: ps) k = look ((j, b) :: qs) k) → ¬ i < j := by
      intro i a j b ps qs h1 h2 n1 he hlt
      have h3 := he i
      rw [look_mem h1 List.mem_cons_self, look_none (fun q hq => by
        rcases List.mem_cons.1 hq with e | e
        · rw [e]; simp only; omega
        · have := h2.head q e; simp only at this; omega)] at h3
      exact n1 (i, a) List.mem_cons_self h3
    have e : i = j := by
      have := key h1 h2 n1 he
      have := key h2 h1 n2 (fun k => (he k).symm)
      omega
    subst e
    have e2 := he i
    rw [look_mem h1 List.mem_cons_self, look_mem h2 List.mem_cons_self] at e2
    subst e2
    rw [ps_ext h1.tail h2.tail n1.tail n2.tail fun k => by
      have := he k
      simp only [look] at this
      by_cases e : i = k
      · subst e
        rw [look_none (fun q hq => by have := h1.head q hq; simp only at this; omega), look_none (fun q hq => by have := h2.head q hq; simp only at this; omega)]
      · rw [if_neg e, if_neg e] at this; exact this]

theorem look_append {ps qs : Ps} (k : Nat) (h : Ok (ps ++ qs)) : look (ps ++ qs) k = look ps k ||| look qs k := by
  induction ps with
  | nil => simp [look]
  | cons q ps ih =>
    obtain ⟨i, w⟩ := q
    have h' : Ok ((i, w) :: (ps ++ qs)) := h
    simp only [List.cons_append, look]
    split
    · rename_i e
      rw [look_none (ps := qs) fun q hq => by have := h'.head q (by simp [hq]); simp only at this; omega]
      simp
    · exact ih h'.tail

/-! ### what two arrays make together -/

def andL : Ps → Ps → Ps
  | [], _ => []
  | _ :: _, [] => []
  | (i, a) :: p, (j, b) :: q => if j < i then andL ((i, a) :: p) q else if i < j then andL p ((j, b) :: q) else (if a &&& b = 0 then [] else [(i, a &&& b)]) ++ andL p q
termination_by p q => p.length + q.length

def nandL : Ps → Ps → Ps
  | [], _ => []
  | p, [] => p
  | (i, a) :: p, (j, b) :: q => if j < i then nandL ((i, a) :: p) q else if i < j then (i, a) :: nandL p ((j, b) :: q) else (if a ^^^ (a &&& b) = 0 then [] else [(i, a ^^^ (a &&& b))]) ++ nandL p q
termination_by p q => p.length + q.length

def orL : Ps → Ps → Ps
  | [], q => q
  | p, [] => p
  | (i, a) :: p, (j, b) :: q => if j < i then (j, b) :: orL ((i, a) :: p) q else if i < j then (i, a) :: orL p ((j, b) :: q) else (i, a ||| b) :: orL p q
termination_by p q => p.length + q.length

theorem andL_keys (p q : Ps) (x : Nat × Nat) (hx : x ∈ andL p q) : ∃ y ∈ p, y.1 = x.1 := by
  fun_induction andL p q with
  | case1 => simp at hx
  | case2 => simp at hx
  | case3 i a p j b q h ih => exact ih hx
  | case4 i a p j b q h1 h2 ih => obtain ⟨y, hy, e⟩ := ih hx; exact ⟨y, List.mem_cons_of_mem _ hy, e⟩
  | case5 i a p j b q h1 h2 ih =>
    rcases List.mem_append.1 hx with h | h
    · split at h
      · simp at h
      · rw [List.mem_singleton.1 h]; exact ⟨(i, a), List.mem_cons_self, rfl⟩
    · obtain ⟨y, hy, e⟩ := ih h; exact ⟨y, List.mem_cons_of_mem _ hy, e⟩

theorem and_lt {a b : Nat} (h : a < 2 ^ 64) : a &&& b < 2 ^ 64 := Nat.lt_of_le_of_lt Nat.and_le_left h

theorem andL_ok (p q : Ps) (hp : Ok p) (hq : Ok q) : Ok (andL p q) ∧ Nz (andL p q) ∧ ∀ k, look (andL p q) k = look p k &&& look q k := by
  fun_induction andL p q with
  | case1 => exact ⟨Ok.nil, Nz.nil, fun k => by simp [look]⟩
  | case2 => exact ⟨Ok.nil, Nz.nil, fun k => by simp [look]⟩
  | case3 i a p j b q h ih =>
    obtain ⟨i1, i2, i3⟩ := ih hp hq.tail
    refine ⟨i1, i2, fun k => ?_⟩
    rw [i3]
    by_cases e : j = k
    · subst e
      rw [look_none (ps := (i, a) :: p) fun x hx => by
        rcases List.mem_cons.1 hx with e | e
        · rw [e]; simp only; omega
        · have := hp.head x e; simp only at this; omega]
      simp
    · conv => rhs; simp only [look]; rw [if_neg e]
      simp only [look]
  | case4 i a p j b q h1 h2 ih =>
    obtain ⟨i1, i2, i3⟩ := ih hp.tail hq
    refine ⟨i1, i2, fun k => ?_⟩
    rw [i3]
    by_cases e : i = k
    · subst e
      rw [look_none (ps := (j, b) :: q) fun x hx => by
        rcases List.mem_cons.1 hx with e | e
        · rw [e]; simp only; omega
        · have := hq.head x e; simp only at this; omega]
      simp
    · conv => rhs; rw [look]; rw [if_neg e]
  | case5 i a p j b q h1 h2 ih =>
    obtain ⟨i1, i2, i3⟩ := ih hp.tail hq.tail
    obtain rfl : i = j := by omega
    have hk : ∀ x ∈ andL p q, i < x.1 := fun x hx => by
      obtain ⟨y, hy, e⟩ := andL_keys p q x hx
      have := hp.head y hy
      simp only at this; omega
    have hl : ∀ k, look ((i, a) :: p) k &&& look ((i, b) :: q) k = if i = k then a &&& b else look p k &&& look q k := fun k => by
      simp only [look]; split <;> rfl
    by_cases hz : a &&& b = 0
    · rw [if_pos hz, List.nil_append]
      refine ⟨i1, i2, fun k => ?_⟩
      rw [hl]
      split
      · rename_i e; subst e
        rw [look_none fun x hx => by have := hk x hx; omega, hz]
      · exact i3 k
    · rw [if_neg hz]
      refine ⟨i1.cons hk (and_lt (hp.2 (i, a) List.mem_cons_self)), fun x hx => ?_, fun k => ?_⟩
      · rcases List.mem_cons.1 hx with e | e
        · rw [e]; exact hz
        · exact i2 x e
      · rw [hl, List.singleton_append, look, i3]

theorem xorand (a b i : Nat) : (a ^^^ (a &&& b)).testBit i = (a.testBit i && !b.testBit i) := by
  simp only [Nat.testBit_xor, Nat.testBit_and]; cases a.testBit i <;> cases b.testBit i <;> rfl
theorem nand_zero (a : Nat) : a ^^^ (a &&& 0) = a := by simp
theorem zero_nand (b : Nat) : 0 ^^^ (0 &&& b) = 0 := by simp
theorem nand_lt {a b : Nat} (h : a < 2 ^ 64) : a ^^^ (a &&& b) < 2 ^ 64 := Nat.xor_lt_two_pow h (and_lt h)

theorem nandL_keys (p q : Ps) (x : Nat × Nat) (hx : x ∈ nandL p q) : ∃ y ∈ p, y.1 = x.1 := by
  fun_induction nandL p q with
  | case1 => simp at hx
  | case2 p => exact ⟨x, hx, rfl⟩
  | case3 i a p j b q h ih => exact ih hx
  | case4 i a p j b q h1 h2 ih =>
    rcases List.mem_cons.1 hx with h | h
    · rw [h]; exact ⟨(i, a), List.mem_cons_self, rfl⟩
    · obtain ⟨y, hy, e⟩ := ih h; exact ⟨y, List.mem_cons_of_mem _ hy, e⟩
  | case5 i a p j b q h1 h2 ih =>
    rcases List.mem_append.1 hx with h | h
    · split at h
      · simp at h
      · rw [List.mem_singleton.1 h]; exact ⟨(i, a), List.mem_cons_self, rfl⟩
    · obtain ⟨y, hy, e⟩ := ih h; exact ⟨y, List.mem_cons_of_mem _ hy, e⟩

theorem nandL_ok (p q : Ps) (hp : Ok p) (hq : Ok q) (np : Nz p) : Ok (nandL p q) ∧ Nz (nandL p q) ∧ ∀ k, look (nandL p q) k = look p k ^^^ (look p k &&& look q k) := by
  fun_induction nandL p q with
  | case1 => exact ⟨Ok.nil, Nz.nil, fun k => by simp [look]⟩
  | case2 p => exact ⟨hp, np, fun k => by simp [look]⟩
  | case3 i a p j b q h ih =>
    obtain ⟨i1, i2, i3⟩ := ih hp hq.tail np
    refine ⟨i1, i2, fun k => ?_⟩
    rw [i3]
    by_cases e : j = k
    · subst e
      rw [look_none (ps := (i, a) :: p) fun x hx => by
        rcases List.mem_cons.1 hx with e | e
        · rw [e]; simp only; omega
        · have := hp.head x e; simp only at this; omega]
      simp
    · conv => rhs; rw [look.eq_2 k j b q, if_neg e]
  | case4 i a p j b q h1 h2 ih =>
    obtain ⟨i1, i2, i3⟩ := ih hp.tail hq np.tail
    have hk : ∀ x ∈ nandL p ((j, b) :: q), i < x.1 := fun x hx => by
      obtain ⟨y, hy, e⟩ := nandL_keys _ _ x hx
      have := hp.head y hy
      simp only at this; omega
    refine ⟨i1.cons hk (hp.2 (i, a) List.mem_cons_self), fun x hx => ?_, fun k => ?_⟩
    · rcases List.mem_cons.1 hx with e | e
      · rw [e]; exact np (i, a) List.mem_cons_self
      · exact i2 x e
    · rw [look.eq_2 k i a, look.eq_2 k i a]
      split
      · rename_i e; subst e
        rw [look_none (ps := (j, b) :: q) fun x hx => by
          rcases List.mem_cons.1 hx with e | e
          · rw [e]; simp only; omega
          · have := hq.head x e; simp only at this; omega]
        simp
      · exact i3 k
  | case5 i a p j b q h1 h2 ih =>
    obtain ⟨i1, i2, i3⟩ := ih hp.tail hq.tail np.tail
    obtain rfl : i = j := by omega
    have hk : ∀ x ∈ nandL p q, i < x.1 := fun x hx => by
      obtain ⟨y, hy, e⟩ := nandL_keys p q x hx
      have := hp.head y hy
      simp only at this; omega
    have hl : ∀ k, look ((i, a) :: p) k ^^^ (look ((i, a) :: p) k &&& look ((i, b) :: q) k) = if i = k then a ^^^ (a &&& b) else look p k ^^^ (look p k &&& look q k) := fun k => by
      simp only [look]; split <;> rfl
    by_cases hz : a ^^^ (a &&& b) = 0
    · rw [if_pos hz, List.nil_append]
      refine ⟨i1, i2, fun k => ?_⟩
      rw [hl]
      split
      · rename_i e; subst e
        rw [look_none fun x hx => by have := hk x hx; omega, hz]
      · exact i3 k
    · rw [if_neg hz]
      refine ⟨i1.cons hk (nand_lt (hp.2 (i, a) List.mem_cons_self)), fun x hx => ?_, fun k => ?_⟩
      · rcases List.mem_cons.1 hx with e | e
        · rw [e]; exact hz
        · exact i2 x e
      · rw [hl, List.singleton_append, look, i3]

theorem or_ne {a b : Nat} (h : a ≠ 0) : a ||| b ≠ 0 := fun e => h (by
  apply Nat.eq_of_testBit_eq; intro i
  have : (a ||| b).testBit i = false := by rw [e]; exact Nat.zero_testBit i
  rw [Nat.testBit_or] at this
  rw [Nat.zero_testBit]
  cases h : a.testBit i <;> simp_all)

theorem orL_keys (p q : Ps) (x : Nat × Nat) (hx : x ∈ orL p q) : (∃ y ∈ p, y.1 = x.1) ∨ ∃ y ∈ q, y.1 = x.1 := by
  fun_induction orL p q with
  | case1 q => exact .inr ⟨x, hx, rfl⟩
  | case2 p => exact .inl ⟨x, hx, rfl⟩
  | case3 i a p j b q h ih =>
    rcases List.mem_cons.1 hx with e | e
    · rw [e]; exact .inr ⟨(j, b), List.mem_cons_self, rfl⟩
    · rcases ih e with ⟨y, hy, e⟩ | ⟨y, hy, e⟩
      · exact .inl ⟨y, hy, e⟩
      · exact .inr ⟨y, List.mem_cons_of_mem _ hy, e⟩
  | case4 i a p j b q h1 h2 ih =>
    rcases List.mem_cons.1 hx with e | e
    · rw [e]; exact .inl ⟨(i, a), List.mem_cons_self, rfl⟩
    · rcases ih e with ⟨y, hy, e⟩ | ⟨y, hy, e⟩
      · exact .inl ⟨y, List.mem_cons_of_mem _ hy, e⟩
      · exact .inr ⟨y, hy, e⟩
  | case5 i a p j b q h1 h2 ih =>
    rcases List.mem_cons.1 hx with e | e
    · rw [e]; exact .inl ⟨(i, a), List.mem_cons_self, rfl⟩
    · rcases ih e with ⟨y, hy, e⟩ | ⟨y, hy, e⟩
      · exact .inl ⟨y, List.mem_cons_of_mem _ hy, e⟩
      · exact .inr ⟨y, List.mem_cons_of_mem _ hy, e⟩

theorem orL_ok (p q : Ps) (hp : Ok p) (hq : Ok q) (np : Nz p) (nq : Nz q) : Ok (orL p q) ∧ Nz (orL p q) ∧ ∀ k, look (orL p q) k = look p k ||| look q k := by
  fun_induction orL p q with
  | case1 q => exact ⟨hq, nq, fun k => by simp [look]⟩
  | case2 p => exact ⟨hp, np, fun k => by simp [look]⟩
  | case3 i a p j b q h ih =>
    obtain ⟨i1, i2, i3⟩ := ih hp hq.tail np nq.tail
    have hn : look ((i, a) :: p) j = 0 := look_none fun x hx => by
        rcases List.mem_cons.1 hx with e | e
        · rw [e]; simp only; omega
        · have := hp.head x e; simp only at this; omega
    have hk : ∀ x ∈ orL ((i, a) :: p) q, j < x.1 := fun x hx => by
      rcases orL_keys _ _ x hx with ⟨y, hy, e⟩ | ⟨y, hy, e⟩
      · rcases List.mem_cons.1 hy with e2 | e2
        · rw [e2] at e; simp only at e; omega
        · have := hp.head y e2; simp only at this; omega
      · have := hq.head y hy; simp only at this; omega
    refine ⟨i1.cons hk (hq.2 (j, b) List.mem_cons_self), fun x hx => ?_, fun k => ?_⟩
    · rcases List.mem_cons.1 hx with e | e
      · rw [e]; exact nq (j, b) List.mem_cons_self
      · exact i2 x e
    · rw [look.eq_2 k j b, look.eq_2 k j b]
      split
      · rename_i e; subst e
        rw [hn]; simp
      · exact i3 k
  | case4 i a p j b q h1 h2 ih =>
    obtain ⟨i1, i2, i3⟩ := ih hp.tail hq np.tail nq
    have hn : look ((j, b) :: q) i = 0 := look_none fun x hx => by
        rcases List.mem_cons.1 hx with e | e
        · rw [e]; simp only; omega
        · have := hq.head x e; simp only at this; omega
    have hk : ∀ x ∈ orL p ((j, b) :: q), i < x.1 := fun x hx => by
      rcases orL_keys _ _ x hx with ⟨y, hy, e⟩ | ⟨y, hy, e⟩
      · have := hp.head y hy; simp only at this; omega
      · rcases List.mem_cons.1 hy with e2 | e2
        · rw [e2] at e; simp only at e; omega
        · have := hq.head y e2; simp only at this; omega
    refine ⟨i1.cons hk (hp.2 (i, a) List.mem_cons_self), fun x hx => ?_, fun k => ?_⟩
    · rcases List.mem_cons.1 hx with e | e
      · rw [e]; exact np (i, a) List.mem_cons_self
      · exact i2 x e
    · rw [look.eq_2 k i a, look.eq_2 k i a]
      split
      · rename_i e; subst e
        rw [hn]; simp
      · exact i3 k
  | case5 i a p j b q h1 h2 ih =>
    obtain ⟨i1, i2, i3⟩ := ih hp.tail hq.tail np.tail nq.tail
    obtain rfl : i = j := by omega
    have hk : ∀ x ∈ orL p q, i < x.1 := fun x hx => by
      rcases orL_keys p q x hx with ⟨y, hy, e⟩ | ⟨y, hy, e⟩
      · have := hp.head y hy; simp only at this; omega
      · have := hq.head y hy; simp only at this; omega
    refine ⟨i1.cons hk (Nat.or_lt_two_pow (hp.2 (i, a) List.mem_cons_self) (hq.2 (i, b) List.mem_cons_self)), fun x hx => ?_, fun k => ?_⟩
    · rcases List.mem_cons.1 hx with e | e
      · rw [e]; exact or_ne (np (i, a) List.mem_cons_self)
      · exact i2 x e
    · simp only [look]
      split
      · rfl
      · exact i3 k

/-! ### one word is set, or taken out -/

def ins : Ps → Nat → Nat → Ps
  | [], i, w => [(i, w)]
  | (j, b) :: ps, i, w => if j < i then (j, b) :: ins ps i w else if i < j then (i, w) :: (j, b) :: ps else (i, w) :: ps

theorem ins_keys {ps : Ps} {i w : Nat} {x : Nat × Nat} (hx : x ∈ ins ps i w) : x = (i, w) ∨ x ∈ ps := by
  induction ps with
  | nil => exact .inl (List.mem_singleton.1 hx)
  | cons q ps ih =>
    obtain ⟨j, b⟩ := q
    simp only [ins] at hx
    split at hx
    · rcases List.mem_cons.1 hx with e | e
      · rw [e]; exact .inr List.mem_cons_self
      · rcases ih e with e | e
        · exact .inl e
        · exact .inr (List.mem_cons_of_mem _ e)
    · split at hx
      · rcases List.mem_cons.1 hx with e | e
        · exact .inl e
        · exact .inr e
      · rcases List.mem_cons.1 hx with e | e
        · exact .inl e
        · exact .inr (List.mem_cons_of_mem _ e)

theorem ins_ok {ps : Ps} {i w : Nat} (h : Ok ps) (hw : w < 2 ^ 64) : Ok (ins ps i w) ∧ ∀ k, look (ins ps i w) k = if i = k then w else look ps k := by
  induction ps with
  | nil => exact ⟨Ok.nil.cons (fun x hx => by simp at hx) hw, fun k => by simp [ins, look]⟩
  | cons q ps ih =>
    obtain ⟨j, b⟩ := q
    obtain ⟨i1, i2⟩ := ih h.tail
    have hb := h.2 (j, b) List.mem_cons_self
    simp only [ins]
    by_cases c1 : j < i
    · rw [if_pos c1]
      refine ⟨i1.cons (fun x hx => ?_) hb, fun k => ?_⟩
      · rcases ins_keys hx with e | e
        · rw [e]; exact c1
        · exact h.head x e
      · simp only [look]
        split
        · rename_i e; rw [if_neg (by omega)]
        · exact i2 k
    · rw [if_neg c1]
      by_cases c2 : i < j
      · rw [if_pos c2]
        refine ⟨h.cons (fun x hx => ?_) hw, fun k => by simp only [look]⟩
        rcases List.mem_cons.1 hx with e | e
        · rw [e]; exact c2
        · have := h.head x e; simp only at this ⊢; omega
      · rw [if_neg c2]
        obtain rfl : i = j := by omega
        refine ⟨h.tail.cons (fun x hx => h.head x hx) hw, fun k => ?_⟩
        simp only [look]
        split <;> rfl
theorem ins_nz {ps : Ps} {i w : Nat} (h : Nz ps) (hw : w ≠ 0) : Nz (ins ps i w) := fun x hx => by
  rcases ins_keys hx with e | e
  · rw [e]; exact hw
  · exact h x e

/-- where an index stands, or would -/
def pos (ps : Ps) (i : Nat) : Nat := (ps.takeWhile fun q => decide (q.1 < i)).length
theorem pos_le (ps : Ps) (i : Nat) : pos ps i ≤ ps.length := by
  induction ps with
  | nil => exact Nat.le_refl _
  | cons q ps ih => unfold pos at ih ⊢; rw [List.takeWhile_cons]; split <;> simp <;> omega
theorem pos_cons (q : Nat × Nat) (ps : Ps) (i : Nat) : pos (q :: ps) i = if q.1 < i then pos ps i + 1 else 0 := by
  unfold pos; rw [List.takeWhile_cons]; by_cases h : q.1 < i <;> simp [h]

theorem pos_of {ps : Ps} {i r : Nat} (hr : r ≤ ps.length) (h1 : ∀ p (hp : p < ps.length), p < r → (ps[p]).1 < i) (h2 : ∀ p (hp : p < ps.length), r ≤ p → i ≤ (ps[p]).1) : pos ps i = r := by
  induction ps generalizing r with
  | nil => have : r = 0 := by simpa using hr
           subst this; rfl
  | cons q ps ih =>
    rw [pos_cons]
    cases r with
    | zero => rw [if_neg]; have := h2 0 (by simp) (Nat.le_refl _); simp only [List.getElem_cons_zero] at this; omega
    | succ r =>
      have h0 := h1 0 (by simp) (by omega)
      simp only [List.getElem_cons_zero] at h0
      rw [if_pos h0, ih (by simpa using hr) (fun p hp hlt => by have := h1 (p + 1) (by simpa using hp) (by omega); simpa using this) (fun p hp hlt => by have := h2 (p + 1) (by simpa using hp) (by omega); simpa using this)]

theorem ins_new {ps : Ps} {i w : Nat} (h : Ok ps) (hn : ∀ q, ps[pos ps i]? = some q → q.1 ≠ i) : ins ps i w = ps.take (pos ps i) ++ (i, w) :: ps.drop (pos ps i) := by
  induction ps with
  | nil => rfl
  | cons q ps ih =>
    obtain ⟨j, b⟩ := q
    rw [pos_cons] at hn ⊢
    simp only [ins]
    by_cases c : j < i
    · rw [if_pos c] at hn
      rw [if_pos c, if_pos c, ih h.tail fun q hq => hn q (by simpa using hq)]
      rfl
    · rw [if_neg c] at hn
      rw [if_neg c, if_neg c]
      have := hn (j, b) rfl
      simp only at this
      rw [if_pos (by omega)]
      rfl
theorem ins_old {ps : Ps} {i w b : Nat} (h : Ok ps) (hn : ps[pos ps i]? = some (i, b)) : ins ps i w = ps.set (pos ps i) (i, w) ∧ look ps i = b := by
  refine ⟨?_, look_mem h (List.mem_of_getElem? hn)⟩
  induction ps with
  | nil => simp at hn
  | cons q ps ih =>
    obtain ⟨j, b'⟩ := q
    rw [pos_cons] at hn ⊢
    simp only [ins]
    by_cases c : j < i
    · rw [if_pos c] at hn
      rw [if_pos c, if_pos c, ih h.tail (by simpa using hn)]
      rfl
    · rw [if_neg c] at hn
      rw [if_neg c, if_neg c]
      simp only [List.getElem?_cons_zero, Option.some.injEq, Prod.mk.injEq] at hn
      rw [if_neg (by omega)]
      rfl
theorem look_new {ps : Ps} {i : Nat} (h : Ok ps) (hn : ∀ q, ps[pos ps i]? = some q → q.1 ≠ i) : look ps i = 0 := by
  induction ps with
  | nil => rfl
  | cons q ps ih =>
    obtain ⟨j, b⟩ := q
    rw [pos_cons] at hn
    by_cases c : j < i
    · rw [if_pos c] at hn
      simp only [look]
      rw [if_neg (by omega)]
      exact ih h.tail fun q hq => hn q (by simpa using hq)
    · rw [if_neg c] at hn
      have h0 := hn (j, b) rfl
      simp only at h0
      exact look_none fun x hx => by
        rcases List.mem_cons.1 hx with e | e
        · rw [e]; exact h0
        · have := h.head x e; simp only at this; omega

theorem Ok.erase {ps : Ps} (h : Ok ps) (r : Nat) : Ok (ps.eraseIdx r) := by
  have hs := List.eraseIdx_sublist ps r
  exact ⟨List.Pairwise.sublist (hs.map _) h.1, fun q hq => h.2 q (hs.subset hq)⟩
theorem Nz.erase {ps : Ps} (h : Nz ps) (r : Nat) : Nz (ps.eraseIdx r) := fun q hq => h q ((List.eraseIdx_sublist ps r).subset hq)
theorem look_erase {ps : Ps} {r i b : Nat} (h : Ok ps) (hr : ps[r]? = some (i, b)) (k : Nat) : look (ps.eraseIdx r) k = if i = k then 0 else look ps k := by
  induction ps generalizing r with
  | nil => simp at hr
  | cons q ps ih =>
    obtain ⟨j, b'⟩ := q
    cases r with
    | zero =>
      simp only [List.getElem?_cons_zero, Option.some.injEq, Prod.mk.injEq] at hr
      obtain ⟨rfl, rfl⟩ := hr
      simp only [List.eraseIdx_zero, List.tail_cons, look]
      split
      · rename_i e; subst e
        exact look_none fun q hq => by have := h.head q hq; simp only at this; omega
      · rfl
    | succ r =>
      simp only [List.getElem?_cons_succ] at hr
      simp only [List.eraseIdx_cons_succ, look]
      have hm := h.head _ (List.mem_of_getElem? hr)
      simp only at hm
      rw [ih h.tail hr]
      by_cases e : j = k
      · rw [if_pos e, if_neg (by omega), if_pos e]
      · rw [if_neg e, if_neg e]

/-! ### ascending lists as sets -/

def sAt (S : List Nat) (k : Nat) : Nat := (S.takeWhile fun x => decide (x < k)).length
def sHas (S : List Nat) (k : Nat) : Bool := decide (S[sAt S k]? = some k)
def sPut (S : List Nat) (k : Nat) : List Nat := if sHas S k then S else S.take (sAt S k) ++ k :: S.drop (sAt S k)
def sDrop (S : List Nat) (k : Nat) : List Nat := if sHas S k then S.take (sAt S k) ++ S.drop (sAt S k + 1) else S
def sFrom (S : List Nat) (from_ most : Nat) : List Nat := (S.drop (sAt S from_)).take most
def sOr (a b : List Nat) : List Nat := b.foldl sPut a
def sAnd (a b : List Nat) : List Nat := a.filter (sHas b)
def sNand (a b : List Nat) : List Nat := a.filter fun k => !sHas b k

theorem sAt_le (S : List Nat) (k : Nat) : sAt S k ≤ S.length := (List.takeWhile_sublist _).length_le
theorem sAt_cons (x : Nat) (S : List Nat) (k : Nat) : sAt (x :: S) k = if x < k then sAt S k + 1 else 0 := by
  unfold sAt; rw [List.takeWhile_cons]; by_cases h : x < k <;> simp [h]
theorem sAt_take (S : List Nat) (k : Nat) : ∀ x ∈ S.take (sAt S k), x < k := by
  induction S with
  | nil => intro x hx; simp at hx
  | cons y S ih =>
    intro x hx
    rw [sAt_cons] at hx
    split at hx
    · rw [List.take_succ_cons] at hx
      rcases List.mem_cons.1 hx with e | e
      · omega
      · exact ih x e
    · simp at hx
theorem sAt_drop {S : List Nat} (h : Asc S) (k : Nat) : ∀ x ∈ S.drop (sAt S k), k ≤ x := by
  induction S with
  | nil => intro x hx; simp at hx
  | cons y S ih =>
    intro x hx
    obtain ⟨h1, h2⟩ := asc_cons.1 h
    rw [sAt_cons] at hx
    split at hx
    · rw [List.drop_succ_cons] at hx
      exact ih h2 x hx
    · rw [List.drop_zero] at hx
      rcases List.mem_cons.1 hx with e | e
      · omega
      · have := h1 x e; omega
theorem sHas_iff {S : List Nat} (h : Asc S) (k : Nat) : sHas S k = true ↔ k ∈ S := by
  unfold sHas
  rw [decide_eq_true_eq]
  constructor
  · intro e; exact List.mem_of_getElem? e
  · intro hk
    induction S with
    | nil => simp at hk
    | cons y S ih =>
      obtain ⟨h1, h2⟩ := asc_cons.1 h
      rw [sAt_cons]
      rcases List.mem_cons.1 hk with e | e
      · rw [if_neg (by omega)]; simp [e]
      · rw [if_pos (h1 k e)]; simpa using ih h2 e

theorem mem_split (S : List Nat) (n x : Nat) : x ∈ S ↔ x ∈ S.take n ∨ x ∈ S.drop n := by
  conv => lhs; rw [← List.take_append_drop n S]
  exact List.mem_append

theorem sPut_mem (S : List Nat) (k x : Nat) : x ∈ sPut S k ↔ x = k ∨ x ∈ S := by
  unfold sPut
  split
  · rename_i h
    unfold sHas at h
    rw [decide_eq_true_eq] at h
    have := List.mem_of_getElem? h
    exact ⟨.inr, fun h => h.elim (fun e => e ▸ this) id⟩
  · rw [mem_split S (sAt S k), List.mem_append, List.mem_cons]
    exact or_left_comm
theorem sPut_asc {S : List Nat} (h : Asc S) (k : Nat) : Asc (sPut S k) := by
  unfold sPut
  split
  · exact h
  · rename_i hn
    have hk : ¬ k ∈ S := fun e => hn ((sHas_iff h k).2 e)
    have h1 := sAt_take S k
    have h2 := sAt_drop h k
    rw [asc_append, asc_cons]
    refine ⟨List.Pairwise.sublist (List.take_sublist _ _) h, ⟨fun y hy => ?_, List.Pairwise.sublist (List.drop_sublist _ _) h⟩, fun x hx y hy => ?_⟩
    · have := h2 y hy
      have : y ≠ k := fun e => hk (e ▸ List.mem_of_mem_drop hy)
      omega
    · have := h1 x hx
      rcases List.mem_cons.1 hy with e | e
      · omega
      · have := h2 y e; omega
theorem sDrop_eq {S : List Nat} (h : Asc S) (k : Nat) : sDrop S k = S.filter fun x => decide (x ≠ k) := by
  unfold sDrop
  by_cases hk : sHas S k = true
  · rw [if_pos hk]
    unfold sHas at hk
    rw [decide_eq_true_eq] at hk
    have hlt : sAt S k < S.length := (List.getElem?_eq_some_iff.1 hk).1
    have e : S = S.take (sAt S k) ++ k :: S.drop (sAt S k + 1) := by
      conv => lhs; rw [← List.take_append_drop (sAt S k) S]
      rw [List.drop_eq_getElem_cons hlt]
      have := (List.getElem?_eq_some_iff.1 hk).2
      rw [this]
    have h1 := sAt_take S k
    have h2 : ∀ y ∈ S.drop (sAt S k + 1), k < y := by
      have := h
      rw [e] at this
      exact (asc_cons.1 (asc_append.1 this).2.1).1
    conv => rhs; rw [e]
    rw [List.filter_append, List.filter_cons, if_neg (by simp), List.filter_eq_self.2 (fun x hx => by have := h1 x hx; simp; omega), List.filter_eq_self.2 (fun x hx => by have := h2 x hx; simp; omega)]
  · rw [if_neg hk]
    have hn : ¬ k ∈ S := fun e => hk ((sHas_iff h k).2 e)
    rw [List.filter_eq_self.2 fun x hx => by simp; exact fun e => hn (e ▸ hx)]
theorem sDrop_asc {S : List Nat} (h : Asc S) (k : Nat) : Asc (sDrop S k) := by rw [sDrop_eq h]; exact List.Pairwise.filter _ h
theorem sDrop_mem {S : List Nat} (h : Asc S) (k x : Nat) : x ∈ sDrop S k ↔ x ≠ k ∧ x ∈ S := by rw [sDrop_eq h]; simp [and_comm]

theorem sOr_ok {a : List Nat} (b : List Nat) (ha : Asc a) : Asc (sOr a b) ∧ ∀ x, x ∈ sOr a b ↔ x ∈ a ∨ x ∈ b := by
  unfold sOr
  induction b generalizing a with
  | nil => exact ⟨ha, fun x => by simp⟩
  | cons k b ih =>
    obtain ⟨i1, i2⟩ := ih (sPut_asc ha k)
    refine ⟨i1, fun x => ?_⟩
    rw [List.foldl_cons, i2, sPut_mem, List.mem_cons, or_assoc, or_left_comm]
theorem sAnd_ok {a b : List Nat} (ha : Asc a) (hb : Asc b) : Asc (sAnd a b) ∧ ∀ x, x ∈ sAnd a b ↔ x ∈ a ∧ x ∈ b := by
  unfold sAnd
  exact ⟨List.Pairwise.filter _ ha, fun x => by rw [List.mem_filter, sHas_iff hb]⟩
theorem sNand_ok {a b : List Nat} (ha : Asc a) (hb : Asc b) : Asc (sNand a b) ∧ ∀ x, x ∈ sNand a b ↔ x ∈ a ∧ x ∉ b := by
  unfold sNand
  refine ⟨List.Pairwise.filter _ ha, fun x => ?_⟩
  rw [List.mem_filter, Bool.not_eq_true', ← Bool.not_eq_true, sHas_iff hb]

/-! ### what a step does to the set of bits -/

theorem bit_lt (k : Nat) : 2 ^ (k % 64) < 2 ^ 64 := Nat.pow_lt_pow_right (by decide) (Nat.mod_lt _ (by decide))
def setB (ps : Ps) (k : Nat) : Ps := ins ps (k / 64) (look ps (k / 64) ||| 2 ^ (k % 64))
theorem set_ok {ps : Ps} (h : Ok ps) (k : Nat) : Ok (setB ps k) ∧ nums (setB ps k) = sPut (nums ps) k := by
  have hw : look ps (k / 64) ||| 2 ^ (k % 64) < 2 ^ 64 := Nat.or_lt_two_pow (look_lt h _) (bit_lt k)
  obtain ⟨i1, i2⟩ := ins_ok (i := k / 64) h hw
  refine ⟨i1, asc_ext _ _ (asc_nums i1) (sPut_asc (asc_nums h) k) fun x => ?_⟩
  rw [sPut_mem, mem_nums h]
  unfold setB
  rw [mem_nums i1, i2]
  by_cases e : k / 64 = x / 64
  · rw [if_pos e, Nat.testBit_or, e, Nat.testBit_two_pow]
    by_cases e2 : k % 64 = x % 64
    · have : x = k := by omega
      simp [this]
    · have : x ≠ k := fun e3 => e2 (by rw [e3])
      simp [this, e2]
  · rw [if_neg e]
    have : x ≠ k := fun e3 => e (by rw [e3])
    simp [this]
theorem set_nz {ps : Ps} (h : Nz ps) (k : Nat) : Nz (setB ps k) := ins_nz h (fun e => by
  have : (look ps (k / 64) ||| 2 ^ (k % 64)).testBit (k % 64) = false := by rw [e]; exact Nat.zero_testBit _
  rw [Nat.testBit_or, Nat.testBit_two_pow] at this
  simp at this)

theorem get_ok {ps : Ps} (h : Ok ps) (k : Nat) : (look ps (k / 64)).testBit (k % 64) = sHas (nums ps) k := by
  rw [Bool.eq_iff_iff, sHas_iff (asc_nums h), mem_nums h]

theorem and_ok {p q : Ps} (hp : Ok p) (hq : Ok q) : nums (andL p q) = sAnd (nums p) (nums q) := by
  obtain ⟨i1, _, i3⟩ := andL_ok p q hp hq
  obtain ⟨j1, j2⟩ := sAnd_ok (asc_nums hp) (asc_nums hq)
  refine asc_ext _ _ (asc_nums i1) j1 fun x => ?_
  rw [j2, mem_nums i1, i3, mem_nums hp, mem_nums hq, Nat.testBit_and, Bool.and_eq_true]
theorem nand_ok {p q : Ps} (hp : Ok p) (hq : Ok q) (np : Nz p) : nums (nandL p q) = sNand (nums p) (nums q) := by
  obtain ⟨i1, _, i3⟩ := nandL_ok p q hp hq np
  obtain ⟨j1, j2⟩ := sNand_ok (asc_nums hp) (asc_nums hq)
  refine asc_ext _ _ (asc_nums i1) j1 fun x => ?_
  rw [j2, mem_nums i1, i3, mem_nums hp, mem_nums hq, xorand, Bool.and_eq_true, Bool.not_eq_true', Bool.not_eq_true]
theorem or_ok {p q : Ps} (hp : Ok p) (hq : Ok q) (np : Nz p) (nq : Nz q) : nums (orL p q) = sOr (nums p) (nums q) := by
  obtain ⟨i1, _, i3⟩ := orL_ok p q hp hq np nq
  obtain ⟨j1, j2⟩ := sOr_ok (nums q) (asc_nums hp)
  refine asc_ext _ _ (asc_nums i1) j1 fun x => ?_
  rw [j2, mem_nums i1, i3, mem_nums hp, mem_nums hq, Nat.testBit_or, Bool.or_eq_true]
end Bam
