/- Bit arrays: a bit is cleared; two arrays compared; words of a set; how many bits. No program in sight. -/
import Derived.Test.YtidekgmpbcnfmaaBaMath
import Derived.Test.YtidekgmpbcnfmaaPop
namespace Bam
set_option linter.unusedVariables false
open Go.Proofs.Ytidekgmpbcnfmaa

/-! ### a bit is cleared -/
def clearB (ps : Ps) (k : Nat) : Ps :=
  match ps[pos ps (k / 64)]? with
  | none => ps
  | some (i, b) => if i = k / 64 then (if b ^^^ (b &&& 2 ^ (k % 64)) = 0 then ps.eraseIdx (pos ps (k / 64)) else ps.set (pos ps (k / 64)) (i, b ^^^ (b &&& 2 ^ (k % 64)))) else ps

theorem nand_bit (b k x : Nat) : (b ^^^ (b &&& 2 ^ k)).testBit x = (b.testBit x && !decide (k = x)) := by
  rw [xorand, Nat.testBit_two_pow]

theorem clear_ok {ps : Ps} (h : Ok ps) (k : Nat) : Ok (clearB ps k) ∧ nums (clearB ps k) = sDrop (nums ps) k := by
  have key : ∀ qs : Ps, Ok qs → (∀ j, look qs j = if k / 64 = j then look ps j ^^^ (look ps j &&& 2 ^ (k % 64)) else look ps j) → nums qs = sDrop (nums ps) k := by
    intro qs hq hl
    refine asc_ext _ _ (asc_nums hq) (sDrop_asc (asc_nums h) k) fun x => ?_
    rw [sDrop_mem (asc_nums h), mem_nums hq, hl, mem_nums h]
    by_cases e : k / 64 = x / 64
    · rw [if_pos e, nand_bit]
      by_cases e2 : k % 64 = x % 64
      · have : x = k := by omega
        simp [this]
      · have : x ≠ k := fun e3 => e2 (by rw [e3])
        simp [this, e2]
    · rw [if_neg e]
      have : x ≠ k := fun e3 => e (by rw [e3])
      simp [this]
  unfold clearB
  cases hr : ps[pos ps (k / 64)]? with
  | none =>
    simp only
    refine ⟨h, key ps h fun j => ?_⟩
    split
    · rename_i e
      subst e
      rw [look_new h (fun q hq => by rw [hr] at hq; cases hq)]; simp
    · rfl
  | some q =>
    obtain ⟨i, b⟩ := q
    simp only
    by_cases hi : i = k / 64
    · rw [if_pos hi]
      subst hi
      have hb : look ps (k / 64) = b := look_mem h (List.mem_of_getElem? hr)
      by_cases hz : b ^^^ (b &&& 2 ^ (k % 64)) = 0
      · rw [if_pos hz]
        refine ⟨h.erase _, key _ (h.erase _) fun j => ?_⟩
        rw [look_erase h hr]
        split
        · rename_i e; subst e; rw [hb, hz]
        · rfl
      · rw [if_neg hz]
        obtain ⟨e1, _⟩ := ins_old (w := b ^^^ (b &&& 2 ^ (k % 64))) h hr
        rw [← e1]
        have hb2 := h.2 _ (List.mem_of_getElem? hr)
        obtain ⟨i1, i2⟩ := ins_ok (ps := ps) (i := k / 64) h (nand_lt (b := 2 ^ (k % 64)) hb2)
        refine ⟨i1, key _ i1 fun j => ?_⟩
        rw [i2]
        split
        · rename_i e; subst e; rw [hb]
        · rfl
    · rw [if_neg hi]
      refine ⟨h, key ps h fun j => ?_⟩
      split
      · rename_i e
        subst e
        rw [look_new h (fun q hq => by rw [hr] at hq; injection hq with hq; rw [← hq]; exact hi)]; simp
      · rfl
theorem clear_nz {ps : Ps} (h : Nz ps) (k : Nat) : Nz (clearB ps k) := by
  unfold clearB
  cases hr : ps[pos ps (k / 64)]? with
  | none => exact h
  | some q =>
    obtain ⟨i, b⟩ := q
    simp only
    split
    · split
      · exact h.erase _
      · rename_i hz
        intro x hx
        rcases List.mem_or_eq_of_mem_set hx with e | e
        · exact h x e
        · rw [e]; exact hz
    · exact h

/-! ### how many bits -/
theorem filter_count : ∀ (n w : Nat), ((List.range n).filter fun i => w.testBit i).length = Pop.pc n w := by
  intro n
  induction n with
  | zero => intro w; rfl
  | succ n ih =>
    intro w
    rw [Pop.pc, List.range_succ_eq_map, List.filter_cons]
    have e : (List.filter (fun i => w.testBit i) (List.map Nat.succ (List.range n))).length = Pop.pc n (w / 2) := by
      rw [← ih (w / 2), List.filter_map, List.length_map]
      congr 2
      funext i
      simp [Nat.testBit_succ]
    rw [Nat.testBit_zero]
    by_cases h : w % 2 = 1
    · simp only [h, decide_true, if_true, List.length_cons, e]; omega
    · simp only [h, decide_false, Bool.false_eq_true, if_false, e]; omega
theorem bits_count (w : Nat) : (bitsOf w).length = Pop.pc 64 w := filter_count 64 w
def cntP (ps : Ps) : Nat := (ps.map fun q => Pop.pc 64 q.2).sum
theorem cnt_nums (ps : Ps) : (nums ps).length = cntP ps := by
  have e : ∀ q : Nat × Nat, ((bitsOf q.2).map fun i => i + q.1 * 64).length = Pop.pc 64 q.2 := fun q => by rw [List.length_map, bits_count]
  induction ps with
  | nil => rfl
  | cons q ps ih =>
    have h1 : nums (q :: ps) = ((bitsOf q.2).map fun i => i + q.1 * 64) ++ nums ps := by unfold nums; rw [List.flatMap_cons]
    have h2 : cntP (q :: ps) = Pop.pc 64 q.2 + cntP ps := by unfold cntP; rw [List.map_cons, List.sum_cons]
    rw [h1, h2, List.length_append, e, ih]

/-! ### two arrays compared -/
theorem nums_append (a b : Ps) : nums (a ++ b) = nums a ++ nums b := by unfold nums; exact List.flatMap_append
theorem nums_nil_of {ps : Ps} (h : Ok ps) (hn : Nz ps) (he : nums ps = []) : ps = [] := by
  cases ps with
  | nil => rfl
  | cons q ps =>
    exfalso
    have h1 : bitsOf q.2 ≠ [] := fun e => hn q List.mem_cons_self ((bits_zero q.2 (h.2 q List.mem_cons_self)).2 e)
    unfold nums at he
    rw [List.flatMap_cons, List.append_eq_nil_iff] at he
    exact h1 (List.map_eq_nil_iff.1 he.1)
theorem Ok.right {a b : Ps} (h : Ok (a ++ b)) : Ok b := ⟨(asc_append.1 (by simpa using h.1)).2.1, fun q hq => h.2 q (List.mem_append.2 (.inr hq))⟩
theorem Nz.right {a b : Ps} (h : Nz (a ++ b)) : Nz b := fun q hq => h q (List.mem_append.2 (.inr hq))
theorem nums_inj {p q : Ps} (hp : Ok p) (hq : Ok q) (np : Nz p) (nq : Nz q) (h : nums p = nums q) : p = q := ps_ext hp hq np nq (look_of_nums hp hq h)
theorem prefix_iff {p q : Ps} (hp : Ok p) (hq : Ok q) (np : Nz p) (nq : Nz q) (hl : (nums p).length = (nums q).length) : q <+: p ↔ nums p = nums q := by
  constructor
  · rintro ⟨r, rfl⟩
    rw [nums_append, List.length_append] at hl
    rw [nums_append, List.eq_nil_of_length_eq_zero (l := nums r) (by omega), List.append_nil]
  · intro h
    rw [nums_inj hp hq np nq h]
    exact List.prefix_rfl

/-! ### the words of a set of bits -/
def wordAdd (acc : Ps) (k : Nat) : Ps :=
  match acc.getLast? with
  | none => [(k / 64, 2 ^ (k % 64))]
  | some (i, w) => if i = k / 64 then acc.dropLast ++ [(i, w ||| 2 ^ (k % 64))] else acc ++ [(k / 64, 2 ^ (k % 64))]
def words (S : List Nat) : Ps := S.foldl wordAdd []

theorem ins_last {ps : Ps} {i w : Nat} (h : ∀ q ∈ ps, q.1 < i) : ins ps i w = ps ++ [(i, w)] := by
  induction ps with
  | nil => rfl
  | cons q ps ih =>
    obtain ⟨j, b⟩ := q
    simp only [ins]
    rw [if_pos (h (j, b) List.mem_cons_self), ih fun q hq => h q (List.mem_cons_of_mem _ hq)]
    rfl
theorem ins_lastEq {ps : Ps} {i w b : Nat} (h : ∀ q ∈ ps, q.1 < i) : ins (ps ++ [(i, b)]) i w = ps ++ [(i, w)] := by
  induction ps with
  | nil => simp [ins]
  | cons q ps ih =>
    obtain ⟨j, b'⟩ := q
    simp only [List.cons_append, ins]
    rw [if_pos (h (j, b') List.mem_cons_self), ih fun q hq => h q (List.mem_cons_of_mem _ hq)]
theorem wordAdd_set {acc : Ps} (h : Ok acc) (k : Nat) (hk : ∀ q ∈ acc, q.1 ≤ k / 64) : wordAdd acc k = setB acc k := by
  unfold wordAdd setB
  rcases List.eq_nil_or_concat acc with e | ⟨l, q, e⟩
  · subst e; simp [look, ins]
  · obtain ⟨i, w⟩ := q
    have e' : acc = l ++ [(i, w)] := by simpa using e
    subst e'
    have hl : ∀ q ∈ l, q.1 < i := fun q hq => by
      have := h.1
      rw [List.map_append, asc_append] at this
      exact this.2.2 _ (List.mem_map_of_mem hq) _ (by simp)
    simp only [List.getLast?_concat, List.dropLast_concat]
    by_cases hi : i = k / 64
    · rw [if_pos hi]
      subst hi
      rw [look_mem h (List.mem_append.2 (.inr (List.mem_singleton.2 rfl))), ins_lastEq hl]
    · rw [if_neg hi]
      have hlt : ∀ q ∈ l ++ [(i, w)], q.1 < k / 64 := fun q hq => by
        have := hk (i, w) (by simp)
        simp only at this
        rcases List.mem_append.1 hq with e | e
        · have := hl q e; omega
        · rw [List.mem_singleton.1 e]; simp only; omega
      rw [look_none fun q hq => by have := hlt q hq; omega, ins_last hlt, Nat.zero_or]
theorem setB_keys {ps : Ps} {k : Nat} {q : Nat × Nat} (hq : q ∈ setB ps k) : q.1 = k / 64 ∨ q ∈ ps := by
  rcases ins_keys hq with e | e
  · rw [e]; exact .inl rfl
  · exact .inr e
theorem words_ok {S : List Nat} (hS : Asc S) : Ok (words S) ∧ Nz (words S) ∧ nums (words S) = S := by
  have key : ∀ (T : List Nat) (acc : Ps), Ok acc → Nz acc → (∀ q ∈ acc, ∀ k ∈ T, q.1 ≤ k / 64) → Asc (nums acc ++ T) → Ok (T.foldl wordAdd acc) ∧ Nz (T.foldl wordAdd acc) ∧ nums (T.foldl wordAdd acc) = nums acc ++ T := by
    intro T
    induction T with
    | nil => intro acc h1 h2 _ _; exact ⟨h1, h2, by simp⟩
    | cons k T ih =>
      intro acc h1 h2 h3 h4
      rw [List.foldl_cons, wordAdd_set h1 k fun q hq => h3 q hq k List.mem_cons_self]
      obtain ⟨s1, s2⟩ := set_ok h1 k
      have h5 := asc_append.1 h4
      have hT := asc_cons.1 h5.2.1
      have e : nums (setB acc k) = nums acc ++ [k] := by
        rw [s2]
        refine asc_ext _ _ (sPut_asc (asc_nums h1) k) (asc_append.2 ⟨h5.1, List.pairwise_singleton _ _, fun x hx y hy => by rw [List.mem_singleton.1 hy]; exact h5.2.2 x hx k List.mem_cons_self⟩) fun x => ?_
        rw [sPut_mem, List.mem_append, List.mem_singleton, or_comm]
      obtain ⟨i1, i2, i3⟩ := ih (setB acc k) s1 (set_nz h2 k) (fun q hq x hx => by
        rcases setB_keys hq with e | e
        · rw [e]; have := hT.1 x hx; omega
        · exact h3 q e x (List.mem_cons_of_mem _ hx)) (by rw [e]; simpa using h4)
      exact ⟨i1, i2, by rw [i3, e]; simp⟩
  have := key S [] Ok.nil Nz.nil (fun q hq => by simp at hq) (by simpa [nums] using hS)
  simpa [nums, words] using this
theorem words_nums {ps : Ps} (h : Ok ps) (hn : Nz ps) : words (nums ps) = ps := by
  obtain ⟨h1, h2, h3⟩ := words_ok (asc_nums h)
  exact nums_inj h1 h h2 hn h3

/-! ### capacity -/
def sCap (S : List Nat) : Nat := match S.getLast? with | none => 0 | some k => 64 * (k / 64 + 1)
def capP (ps : Ps) : Nat := match ps.getLast? with | none => 0 | some q => (q.1 + 1) * 64
theorem cap_ok {ps : Ps} (h : Ok ps) (hn : Nz ps) : capP ps = sCap (nums ps) := by
  unfold capP sCap
  rcases List.eq_nil_or_concat ps with e | ⟨l, q, e⟩
  · subst e; rfl
  · obtain ⟨i, w⟩ := q
    have e' : ps = l ++ [(i, w)] := by simpa using e
    subst e'
    rw [List.getLast?_concat, nums_append]
    have hm := hn (i, w) (by simp)
    have hw := h.2 (i, w) (by simp)
    have h1 : bitsOf w ≠ [] := fun e => hm ((bits_zero w hw).2 e)
    have h2 : nums [(i, w)] = (bitsOf w).map fun j => j + i * 64 := by simp [nums]
    obtain ⟨b, hb⟩ : ∃ b, (bitsOf w).getLast? = some b := by
      cases hg : (bitsOf w).getLast? with
      | none => exact absurd (List.getLast?_eq_none_iff.1 hg) h1
      | some b => exact ⟨b, rfl⟩
    have hb2 := (mem_bitsOf.1 (List.mem_of_getLast? hb)).1
    have h3 : (nums l ++ nums [(i, w)]).getLast? = some (b + i * 64) := by
      rw [List.getLast?_append, h2, List.getLast?_map, hb]; rfl
    rw [h3]
    simp only
    omega
end Bam
