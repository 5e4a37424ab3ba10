/- Dense bit arrays as lists of words. No program in sight. -/
import Derived.Test.YtidekgmpbcnfmaaBaMath2
namespace Bam
set_option linter.unusedVariables false
open Go.Proofs.Ytidekgmpbcnfmaa

/-- a dense array's words as pairs -/
def dps (W : List Nat) : Ps := (List.range W.length).zip W
def W64 (W : List Nat) : Prop := ∀ x ∈ W, x < 2 ^ 64

theorem dps_fst (W : List Nat) : (dps W).map Prod.fst = List.range W.length := by
  unfold dps; rw [List.map_fst_zip (by simp)]
theorem dps_get (W : List Nat) (i : Nat) : (dps W)[i]? = if i < W.length then some (i, W.getD i 0) else none := by
  unfold dps List.zip
  rw [List.getElem?_zipWith]
  by_cases h : i < W.length
  · simp [h]
  · rw [List.getElem?_eq_none (l := List.range W.length) (by simp; omega), if_neg h]
theorem dps_ok {W : List Nat} (h : W64 W) : Ok (dps W) := by
  refine ⟨?_, fun q hq => ?_⟩
  · rw [dps_fst]; exact List.pairwise_lt_range
  · exact h _ (List.of_mem_zip hq).2
theorem look_dps {W : List Nat} (h : W64 W) (i : Nat) : look (dps W) i = W.getD i 0 := by
  by_cases hi : i < W.length
  · have := dps_get W i
    rw [if_pos hi] at this
    exact look_mem (dps_ok h) (List.mem_of_getElem? this)
  · rw [look_none, List.getD_eq_getElem?_getD, List.getElem?_eq_none (by omega)]; rfl
    intro q hq
    have := (List.of_mem_zip hq).1
    simp at this
    omega

/-- the words that a function gives -/
def wordsOf (n : Nat) (f : Nat → Nat) : List Nat := (List.range n).map f
theorem wordsOf_getD (n : Nat) (f : Nat → Nat) (i : Nat) : (wordsOf n f).getD i 0 = if i < n then f i else 0 := by
  unfold wordsOf
  split
  · rename_i h; simp [List.getD_eq_getElem?_getD, h]
  · rename_i h; rw [List.getD_eq_getElem?_getD, List.getElem?_eq_none (by simp; omega)]; rfl
theorem wordsOf_ok {n : Nat} {f : Nat → Nat} (h : ∀ i, i < n → f i < 2 ^ 64) : W64 (wordsOf n f) := by
  intro x hx
  unfold wordsOf at hx
  obtain ⟨i, hi, rfl⟩ := List.mem_map.1 hx
  exact h i (by simpa using hi)
theorem wordsOf_self (W : List Nat) : wordsOf W.length (fun i => W.getD i 0) = W := by
  apply List.ext_getElem?
  intro i
  unfold wordsOf
  by_cases h : i < W.length
  · simp [h, List.getD_eq_getElem?_getD]
  · rw [List.getElem?_eq_none (by simp; omega), List.getElem?_eq_none (by omega)]

/-- the bits of a dense array -/
def dnums (W : List Nat) : List Nat := nums (dps W)
theorem mem_dnums {W : List Nat} (h : W64 W) (k : Nat) : k ∈ dnums W ↔ (W.getD (k / 64) 0).testBit (k % 64) = true := by
  unfold dnums; rw [mem_nums (dps_ok h), look_dps h]
theorem asc_dnums {W : List Nat} (h : W64 W) : Asc (dnums W) := asc_nums (dps_ok h)
theorem dnums_lt {W : List Nat} (h : W64 W) {k : Nat} (hk : k ∈ dnums W) : k < 64 * W.length := by
  rw [mem_dnums h] at hk
  by_cases hi : k / 64 < W.length
  · omega
  · rw [List.getD_eq_getElem?_getD, List.getElem?_eq_none (by omega)] at hk; simp at hk
theorem getD_lt {W : List Nat} (h : W64 W) (i : Nat) : W.getD i 0 < 2 ^ 64 := by rw [← look_dps h]; exact look_lt (dps_ok h) i

def dSet (W : List Nat) (k : Nat) : List Nat := W.set (k / 64) (W.getD (k / 64) 0 ||| 2 ^ (k % 64))
theorem dSet_ok {W : List Nat} (h : W64 W) {k : Nat} (hk : k < 64 * W.length) : W64 (dSet W k) ∧ dnums (dSet W k) = sPut (dnums W) k := by
  have hw : W.getD (k / 64) 0 ||| 2 ^ (k % 64) < 2 ^ 64 := Nat.or_lt_two_pow (getD_lt h _) (bit_lt k)
  have h1 : W64 (dSet W k) := fun x hx => by
    rcases List.mem_or_eq_of_mem_set hx with e | e
    · exact h x e
    · rw [e]; exact hw
  refine ⟨h1, asc_ext _ _ (asc_dnums h1) (sPut_asc (asc_dnums h) k) fun x => ?_⟩
  rw [sPut_mem, mem_dnums h, mem_dnums h1]
  unfold dSet
  by_cases e : k / 64 = x / 64
  · have e2 : (W.set (k / 64) (W.getD (k / 64) 0 ||| 2 ^ (k % 64))).getD (x / 64) 0 = W.getD (k / 64) 0 ||| 2 ^ (k % 64) := by
      rw [List.getD_eq_getElem?_getD, ← e, List.getElem?_set_self (by omega)]; rfl
    rw [e2, Nat.testBit_or, e, Nat.testBit_two_pow]
    by_cases e3 : k % 64 = x % 64
    · have : x = k := by omega
      simp [this]
    · have : x ≠ k := fun e4 => e3 (by rw [e4])
      simp [this, e3]
  · have e2 : (W.set (k / 64) (W.getD (k / 64) 0 ||| 2 ^ (k % 64))).getD (x / 64) 0 = W.getD (x / 64) 0 := by
      rw [List.getD_eq_getElem?_getD, List.getElem?_set_ne e]; rfl
    have : x ≠ k := fun e3 => e (by rw [e3])
    rw [e2]
    simp [this]

/-- words by a function of two words -/
theorem of_bits {n : Nat} {f : Nat → Nat} (hf : ∀ i, i < n → f i < 2 ^ 64) {S : List Nat} (hS : Asc S) (h : ∀ k, k ∈ S ↔ k / 64 < n ∧ (f (k / 64)).testBit (k % 64) = true) : dnums (wordsOf n f) = S := by
  have h1 := wordsOf_ok hf
  refine asc_ext _ _ (asc_dnums h1) hS fun x => ?_
  rw [mem_dnums h1, wordsOf_getD, h]
  by_cases c : x / 64 < n
  · rw [if_pos c]; simp [c]
  · rw [if_neg c]; simp [c]

theorem dAnd_ok {W V : List Nat} (hW : W64 W) (hV : W64 V) : dnums (wordsOf (min W.length V.length) fun i => W.getD i 0 &&& V.getD i 0) = sAnd (dnums W) (dnums V) := by
  obtain ⟨j1, j2⟩ := sAnd_ok (asc_dnums hW) (asc_dnums hV)
  refine of_bits (fun i _ => and_lt (getD_lt hW i)) j1 fun k => ?_
  rw [j2, mem_dnums hW, mem_dnums hV, Nat.testBit_and, Bool.and_eq_true]
  constructor
  · rintro ⟨h1, h2⟩
    have := dnums_lt hW ((mem_dnums hW k).2 h1)
    have := dnums_lt hV ((mem_dnums hV k).2 h2)
    exact ⟨by omega, h1, h2⟩
  · exact fun h => h.2

/-- or of a sparse and a dense array, in so many words -/
theorem dOr_ok {ps : Ps} {W : List Nat} {n : Nat} (hp : Ok ps) (hW : W64 W) (h1 : ∀ q ∈ ps, q.1 < n) (h2 : W.length ≤ n) {S : List Nat} (hS : Asc S) (hm : ∀ x, x ∈ S ↔ x ∈ nums ps ∨ x ∈ dnums W) :
    dnums (wordsOf n fun i => look ps i ||| W.getD i 0) = S := by
  refine of_bits (fun i _ => Nat.or_lt_two_pow (look_lt hp i) (getD_lt hW i)) hS fun k => ?_
  rw [hm, mem_nums hp, mem_dnums hW, Nat.testBit_or, Bool.or_eq_true]
  constructor
  · intro h
    refine ⟨?_, h⟩
    rcases h with h | h
    · have h3 : look ps (k / 64) ≠ 0 := fun e => by rw [e] at h; simp at h
      exact h1 _ (look_ne h3)
    · have := dnums_lt hW ((mem_dnums hW k).2 h); omega
  · exact fun h => h.2

theorem dNand_ok {ps : Ps} {W : List Nat} (hp : Ok ps) (hW : W64 W) : dnums (wordsOf W.length fun i => W.getD i 0 ^^^ (W.getD i 0 &&& look ps i)) = sNand (dnums W) (nums ps) := by
  obtain ⟨j1, j2⟩ := sNand_ok (asc_dnums hW) (asc_nums hp)
  refine of_bits (fun i _ => nand_lt (getD_lt hW i)) j1 fun k => ?_
  rw [j2, mem_nums hp, mem_dnums hW, xorand, Bool.and_eq_true, Bool.not_eq_true', Bool.not_eq_true]
  constructor
  · rintro ⟨h1, h2⟩
    have := dnums_lt hW ((mem_dnums hW k).2 h1)
    exact ⟨by omega, h1, h2⟩
  · exact fun h => h.2

/-- a sparse array without a dense one's bits -/
def nandD : Ps → List Nat → Ps
  | [], _ => []
  | (i, a) :: ps, W => (if a ^^^ (a &&& W.getD i 0) = 0 then [] else [(i, a ^^^ (a &&& W.getD i 0))]) ++ nandD ps W
theorem nandD_keys {ps : Ps} {W : List Nat} {x : Nat × Nat} (hx : x ∈ nandD ps W) : ∃ y ∈ ps, y.1 = x.1 := by
  induction ps with
  | nil => simp [nandD] at hx
  | cons q ps ih =>
    obtain ⟨i, a⟩ := q
    simp only [nandD] at hx
    rcases List.mem_append.1 hx with h | h
    · split at h
      · simp at h
      · rw [List.mem_singleton.1 h]; exact ⟨(i, a), List.mem_cons_self, rfl⟩
    · obtain ⟨y, hy, e⟩ := ih h; exact ⟨y, List.mem_cons_of_mem _ hy, e⟩
theorem nandD_look {ps : Ps} (hp : Ok ps) (W : List Nat) : Ok (nandD ps W) ∧ Nz (nandD ps W) ∧ ∀ k, look (nandD ps W) k = look ps k ^^^ (look ps k &&& W.getD k 0) := by
  induction ps with
  | nil => exact ⟨Ok.nil, Nz.nil, fun k => by simp [nandD, look]⟩
  | cons q ps ih =>
    obtain ⟨i, a⟩ := q
    obtain ⟨i1, i2, i3⟩ := ih hp.tail
    have hk : ∀ x ∈ nandD ps W, i < x.1 := fun x hx => by
      obtain ⟨y, hy, e⟩ := nandD_keys hx
      have := hp.head y hy
      simp only at this; omega
    have hl : ∀ k, look ((i, a) :: ps) k ^^^ (look ((i, a) :: ps) k &&& W.getD k 0) = if i = k then a ^^^ (a &&& W.getD i 0) else look ps k ^^^ (look ps k &&& W.getD k 0) := fun k => by
      simp only [look]
      split
      · rename_i e; rw [e]
      · rfl
    simp only [nandD]
    by_cases hz : a ^^^ (a &&& W.getD i 0) = 0
    · rw [if_pos hz, List.nil_append]
      refine ⟨i1, i2, fun k => ?_⟩
      rw [hl]
      split
      · rename_i e; subst e
        rw [look_none fun x hx => by have := hk x hx; omega, hz]
      · exact i3 k
    · rw [if_neg hz]
      refine ⟨i1.cons hk (nand_lt (hp.2 (i, a) List.mem_cons_self)), fun x hx => ?_, fun k => ?_⟩
      · rcases List.mem_cons.1 hx with e | e
        · rw [e]; exact hz
        · exact i2 x e
      · rw [hl, List.singleton_append, look, i3]
theorem nandD_ok {ps : Ps} {W : List Nat} (hp : Ok ps) (hW : W64 W) : nums (nandD ps W) = sNand (nums ps) (dnums W) := by
  obtain ⟨i1, _, i3⟩ := nandD_look hp W
  obtain ⟨j1, j2⟩ := sNand_ok (asc_nums hp) (asc_dnums hW)
  refine asc_ext _ _ (asc_nums i1) j1 fun x => ?_
  rw [j2, mem_nums i1, i3, mem_nums hp, mem_dnums hW, xorand, Bool.and_eq_true, Bool.not_eq_true', Bool.not_eq_true]
theorem nandD_append (ps qs : Ps) (W : List Nat) : nandD (ps ++ qs) W = nandD ps W ++ nandD qs W := by
  induction ps with
  | nil => rfl
  | cons q ps ih => obtain ⟨i, a⟩ := q; simp only [List.cons_append, nandD, ih, List.append_assoc]

theorem dnums_zero (n : Nat) : dnums (List.replicate n 0) = [] := by
  have h : W64 (List.replicate n 0) := fun x hx => by rw [(List.mem_replicate.1 hx).2]; exact Nat.two_pow_pos 64
  rw [List.eq_nil_iff_forall_not_mem]
  intro k hk
  rw [mem_dnums h] at hk
  by_cases c : k / 64 < n
  · simp [List.getD_eq_getElem?_getD, c] at hk
  · rw [List.getD_eq_getElem?_getD, List.getElem?_eq_none (by simp; omega)] at hk; simp at hk

/-- the fields of a dense array fit its words -/
def Fits (W : List Nat) (lo hi : Nat) (any : Bool) : Prop := any = decide (dnums W ≠ []) ∧ lo = (dnums W).headD 0 ∧ hi = (dnums W).getLastD 0
end Bam
