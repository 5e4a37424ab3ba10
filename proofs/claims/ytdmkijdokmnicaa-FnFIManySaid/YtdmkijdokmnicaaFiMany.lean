/- FnFIMany: the plain law. -/
import Derived.Test.YtdmkijdokmnicaaFiRun
namespace Go.Proofs.Ytdmkijdokmnicaa
set_option linter.unusedVariables false
open Go.RowKit

theorem odd_dvd (m : Nat) : ∀ x d : Nat, d % 2 = 1 → 2 ^ m ∣ x * d → 2 ^ m ∣ x := by
  induction m with
  | zero => intro x d _ _; exact Nat.one_dvd x
  | succ m ih =>
    intro x d hd ⟨q, hq⟩
    have hx : x % 2 = 0 := by
      have h1 : (x * d) % 2 = 0 := by rw [hq, Nat.pow_succ, Nat.mul_assoc, Nat.mul_comm (2 ^ m), Nat.mul_assoc]; exact Nat.mul_mod_right 2 _
      rw [Nat.mul_mod, hd, Nat.mul_one, Nat.mod_mod] at h1
      exact h1
    obtain ⟨y, hy⟩ : ∃ y, x = 2 * y := ⟨x / 2, by omega⟩
    subst hy
    have h2 : 2 ^ m ∣ y * d := by
      refine ⟨q, ?_⟩
      have h3 : 2 * (y * d) = 2 * (2 ^ m * q) := by rw [← Nat.mul_assoc, hq, Nat.pow_succ]; rw [Nat.mul_comm (2 ^ m) 2, Nat.mul_assoc]
      exact Nat.eq_of_mul_eq_mul_left (by decide) h3
    obtain ⟨z, hz⟩ := ih y d hd h2
    exact ⟨z, by rw [hz, Nat.pow_succ, Nat.mul_comm (2 ^ m) 2, Nat.mul_assoc]⟩
theorem small_dvd (a : Nat) : ∀ x d : Nat, 0 < d → d < 2 ^ a → 2 ^ 64 ∣ x * d → 2 ^ 64 ∣ x * 2 ^ a := by
  induction a with
  | zero => intro x d h1 h2; omega
  | succ a ih =>
    intro x d h1 h2 h3
    rcases Nat.mod_two_eq_zero_or_one d with hd | hd
    · obtain ⟨d', rfl⟩ : ∃ d', d = 2 * d' := ⟨d / 2, by omega⟩
      have h4 : 2 ^ 64 ∣ (2 * x) * d' := by
        have e : x * (2 * d') = 2 * x * d' := by rw [Nat.mul_comm 2 x, Nat.mul_assoc]
        rwa [e] at h3
      have h5 := ih (2 * x) d' (by omega) (by rw [Nat.pow_succ] at h2; omega) h4
      have e : 2 * x * 2 ^ a = x * 2 ^ (a + 1) := by rw [Nat.pow_succ, Nat.mul_comm 2 x, Nat.mul_assoc, Nat.mul_comm 2]
      rwa [e] at h5
    · exact Nat.dvd_trans (odd_dvd 64 x d hd h3) (Nat.dvd_mul_right _ _)

/-- no multiple of B by less than 512 falls on 0 -/
def GoodBy (B : Nat) : Prop := ∀ d : Nat, 0 < d → d < 512 → ¬ 18446744073709551616 ∣ B * d
theorem good_of (B : Nat) (h : B * 512 % 18446744073709551616 ≠ 0) : GoodBy B := by
  intro d h1 h2 h3
  have h4 := small_dvd 9 B d h1 (by omega) h3
  exact h (Nat.mod_eq_zero_of_dvd h4)
theorem good_odd (B : Nat) (h : B % 2 = 1) : GoodBy B := by
  intro d h1 h2 h3
  rw [Nat.mul_comm] at h3
  have h4 : 2 ^ 64 ∣ d := odd_dvd 64 d B h h3
  have := Nat.le_of_dvd h1 h4
  omega

/-- the keys -/
def mkey (first B : Int) (i : Nat) : Int := IntKind.u64.wrap (first + IntKind.u64.wrap ((i : Int) * B))
theorem mkey_eq (first B : Int) (i : Nat) : mkey first B i = (first + (i : Int) * B) % 18446744073709551616 := by
  simp only [mkey, IntKind.wrap, IntKind.bits, IntKind.signed]
  simp
theorem mkey_inj (first : Int) (B : Nat) (hB : GoodBy B) (i j : Nat) (hi : i < 301) (hj : j < 301) (h : mkey first B i = mkey first B j) : i = j := by
  have key : ∀ i j : Nat, i < j → j < 301 → mkey first B i = mkey first B j → False := by
    intro i j h1 h2 h3
    rw [mkey_eq, mkey_eq] at h3
    obtain ⟨d, rfl⟩ : ∃ d, j = i + d := ⟨j - i, by omega⟩
    refine hB d (by omega) (by omega) ?_
    have h4 : ((18446744073709551616 : Nat) : Int) ∣ ((B * d : Nat) : Int) := by
      have e1 : ((i + d : Nat) : Int) * (B : Int) = (i : Int) * B + ((B * d : Nat) : Int) := by
        rw [Int.natCast_add, Int.add_mul, Int.natCast_mul, Int.mul_comm (d : Int)]
      rw [e1] at h3
      obtain ⟨P, hP⟩ : ∃ P, (i : Int) * (B : Int) = P := ⟨_, rfl⟩
      obtain ⟨Q, hQ⟩ : ∃ Q, ((B * d : Nat) : Int) = Q := ⟨_, rfl⟩
      rw [hP, hQ] at h3
      rw [hQ]
      have : ((18446744073709551616 : Nat) : Int) = 18446744073709551616 := rfl
      rw [this]
      omega
    exact Int.natCast_dvd_natCast.1 h4
  rcases Nat.lt_trichotomy i j with h1 | h1 | h1
  · exact (key i j h1 hj h).elim
  · exact h1
  · exact (key j i h1 hi h.symm).elim

def mset (first B : Int) (i : Nat) : FStep := ⟨1, mkey first B i, (i : Int) * 7⟩
def mdel (first B : Int) (i : Nat) : FStep := ⟨4, mkey first B (2 * i), 0⟩
def mget (first B : Int) (i : Nat) : FStep := ⟨2, mkey first B i, 0⟩
def sets (first B : Int) (n : Nat) : List FStep := (List.range n).map (mset first B)
def dels (first B : Int) (n : Nat) : List FStep := (List.range n).map (mdel first B)
def gets (first B : Int) (n : Nat) : List FStep := (List.range n).map (mget first B)

theorem fiSt_append (xs ys : List FStep) : fiSt (xs ++ ys) = ys.foldl fiNext (fiSt xs) := by unfold fiSt; rw [List.foldl_append]
theorem sets_succ (first B : Int) (n : Nat) : sets first B (n + 1) = sets first B n ++ [mset first B n] := by simp [sets, List.range_succ]
theorem dels_succ (first B : Int) (n : Nat) : dels first B (n + 1) = dels first B n ++ [mdel first B n] := by simp [dels, List.range_succ]
theorem gets_succ (first B : Int) (n : Nat) : gets first B (n + 1) = gets first B n ++ [mget first B n] := by simp [gets, List.range_succ]

/-- behind the sets -/
theorem st_sets (first : Int) (B : Nat) (hB : GoodBy B) : ∀ n, n ≤ 301 → (fiSt (sets first B n)).2 = n ∧ (Vm.keys (fiSt (sets first B n)).1).Nodup ∧ ∀ i, i < 301 → Vm.get (mkey first B i) (fiSt (sets first B n)).1 = if i < n then some (.int .u64 ((i : Int) * 7)) else none := by
  intro n
  induction n with
  | zero => intro _; simp [sets, fiSt, Vm.keys, Vm.get]
  | succ n ih =>
    intro hn
    obtain ⟨h1, h2, h3⟩ := ih (by omega)
    rw [sets_succ, fiSt_snoc]
    have e : fiNext (fiSt (sets first B n)) (mset first B n) = (Vm.put (mkey first B n) (.int .u64 ((n : Int) * 7)) (fiSt (sets first B n)).1, (fiSt (sets first B n)).2 + 1) := by simp [fiNext, mset]
    rw [e]
    refine ⟨by simp only; rw [h1], Vm.nodup_put h2, fun i hi => ?_⟩
    simp only
    rw [Vm.get_put]
    by_cases hin : mkey first B n = mkey first B i
    · have := mkey_inj first B hB n i (by omega) hi hin
      subst this
      rw [if_pos rfl, if_pos (by omega)]
    · rw [if_neg hin, h3 i hi]
      have hne : i ≠ n := by rintro rfl; exact hin rfl
      by_cases h4 : i < n
      · rw [if_pos h4, if_pos (by omega)]
      · rw [if_neg h4, if_neg (by omega)]
/-- behind the deletions -/
theorem st_dels (first : Int) (B : Nat) (hB : GoodBy B) (n : Nat) (hn : n ≤ 300) : ∀ k, 2 * k ≤ n + 1 → (fiSt (sets first B n ++ dels first B k)).2 = n - k ∧ (Vm.keys (fiSt (sets first B n ++ dels first B k)).1).Nodup ∧
    ∀ i, i < 301 → Vm.get (mkey first B i) (fiSt (sets first B n ++ dels first B k)).1 = if i < n ∧ ¬ (i % 2 = 0 ∧ i < 2 * k) then some (.int .u64 ((i : Int) * 7)) else none := by
  intro k
  induction k with
  | zero =>
    intro _
    obtain ⟨h1, h2, h3⟩ := st_sets first B hB n (by omega)
    simp only [dels, List.range_zero, List.map_nil, List.append_nil]
    refine ⟨by rw [h1]; rfl, h2, fun i hi => ?_⟩
    rw [h3 i hi]
    simp
  | succ k ih =>
    intro hk
    obtain ⟨h1, h2, h3⟩ := ih (by omega)
    rw [dels_succ, ← List.append_assoc, fiSt_snoc]
    have hg := h3 (2 * k) (by omega)
    rw [if_pos (by omega)] at hg
    have e : fiNext (fiSt (sets first B n ++ dels first B k)) (mdel first B k) = (Vm.del (mkey first B (2 * k)) (fiSt (sets first B n ++ dels first B k)).1, (fiSt (sets first B n ++ dels first B k)).2 - 1) := by
      simp [fiNext, mdel, hg]
    rw [e]
    refine ⟨by simp only; omega, Vm.nodup_del h2, fun i hi => ?_⟩
    simp only
    rw [Vm.get_del h2]
    by_cases hin : mkey first B (2 * k) = mkey first B i
    · have := mkey_inj first B hB (2 * k) i (by omega) hi hin
      subst this
      rw [if_pos rfl, if_neg (by omega)]
    · rw [if_neg hin, h3 i hi]
      have hne : i ≠ 2 * k := by rintro rfl; exact hin rfl
      by_cases h4 : i < n ∧ ¬ (i % 2 = 0 ∧ i < 2 * k)
      · rw [if_pos h4, if_pos (by omega)]
      · rw [if_neg h4, if_neg (by omega)]
theorem st_gets (first B : Int) (xs : List FStep) (k : Nat) : fiSt (xs ++ gets first B k) = fiSt xs := by
  induction k with
  | zero => simp [gets]
  | succ k ih =>
    rw [gets_succ, ← List.append_assoc, fiSt_snoc, ih]
    simp [fiNext, mget]
end Go.Proofs.Ytdmkijdokmnicaa
