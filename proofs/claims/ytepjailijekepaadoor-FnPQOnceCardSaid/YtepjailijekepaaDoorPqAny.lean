/- impl.pqStep, any step. -/
import Derived.Test.YtepjailijekepaaDoorPqStepC
namespace Go.Proofs.YtepjailijekepaaDoor
set_option linter.unusedVariables false
open Go.RowKit
open Pqm

/-- each element is the least of those that are left -/
def TakesB : List It → List It → Prop
  | _, [] => True
  | q, x :: r => x ∈ q ∧ (∀ y ∈ q, x.1 ≤ y.1) ∧ TakesB (q.erase x) r
theorem takes_b {q' : List It} : ∀ {got q : List It}, Takes q got q' → TakesB q got ∧ q'.Perm (eraseAll q got)
  | [], q, h => ⟨trivial, (h : q.Perm q').symm⟩
  | x :: r, q, h => ⟨⟨h.1, h.2.1, (takes_b h.2.2).1⟩, (takes_b h.2.2).2⟩
theorem ksok_perm {dup : Bool} {ks q q2 : List It} (h : KsOk dup ks q) (hp : q.Perm q2) : KsOk dup ks q2 := by
  unfold KsOk at h ⊢
  cases dup with
  | true => simpa using h
  | false => exact ⟨h.1.trans hp, hp.nodup_iff.1 h.2⟩
theorem PSt.perm {w : World} {b m : Nat} {p : Option Addr} {q q2 : List It} {gone dup : Bool} (H : PSt w b m p q gone dup) (hp : q.Perm q2) : PSt w b m p q2 gone dup := by
  obtain ⟨c, L, ks, h1, h2, h3, h4, h5⟩ := H.h
  exact ⟨c, L, ks, h1, h2, h3.trans hp, fun h => ksok_perm (h4 h) hp, fun h => by have := h5 h; rw [this] at hp; exact hp.nil_eq.symm⟩

/-- a step: its number, how many are asked for, the elements -/
abbrev Stp := Int × Int × List It
/-- what it says: elements, a number, a truth value, an error -/
abbrev Sad := List It × Int × Bool × Int
/-- a queue: whether it is disposed, what is in it -/
abbrev Que := Bool × List It
def PStep (dup : Bool) (σ : Que) (s : Stp) (σ' : Que) (t : Sad) : Prop :=
  (s.1 = 1 ∧ σ.1 = true ∧ σ' = σ ∧ t.1 = [] ∧ t.2.2.2 = 1) ∨
  (s.1 = 1 ∧ σ.1 = false ∧ σ' = (false, putAll dup σ.2 s.2.2) ∧ t.1 = [] ∧ t.2.2.2 = 0) ∨
  (s.1 = 2 ∧ σ.1 = true ∧ σ' = σ ∧ t.1 = [] ∧ t.2.2.2 = 1) ∨
  (s.1 = 2 ∧ σ.1 = false ∧ σ.2 = [] ∧ σ' = σ ∧ t.1 = [] ∧ t.2.2.2 = -1) ∨
  (s.1 = 2 ∧ σ.1 = false ∧ σ.2 ≠ [] ∧ TakesB σ.2 t.1 ∧ t.1.length = min s.2.1.toNat σ.2.length ∧ σ' = (false, eraseAll σ.2 t.1) ∧ t.2.2.2 = 0) ∨
  (s.1 = 3 ∧ σ.2 = [] ∧ σ' = σ ∧ t.1 = []) ∨
  (s.1 = 3 ∧ σ.2 ≠ [] ∧ σ' = σ ∧ ∃ x ∈ σ.2, (∀ y ∈ σ.2, x.1 ≤ y.1) ∧ t.1 = [x]) ∨
  (s.1 = 4 ∧ σ' = σ ∧ t.2.1 = (σ.2.length : Int)) ∨
  (s.1 = 5 ∧ σ' = σ ∧ t.2.2.1 = decide (σ.2.length = 0)) ∨
  (s.1 = 6 ∧ σ' = (true, [])) ∨
  (s.1 = 7 ∧ σ' = σ ∧ t.2.2.1 = σ.1)

/-- a step that is one -/
structure StOk (s : Stp) : Prop where
  lo : 1 ≤ s.1
  hi : s.1 ≤ 7
  put : s.1 = 1 → s.2.2 ≠ []
  get : s.1 = 2 → 1 ≤ s.2.1 ∧ s.2.1 ≤ 1000

theorem pstep_any (a0 a1 a2 : Addr) (b m : Nat) (p : Option Addr) (σ : Que) (dup : Bool) (s : Stp) (v : Value) (w : World) (hS : Sn w a0 a1 a2) (H : PSt w b m p σ.2 σ.1 dup) (hv : Rw 2 w v (pits s.2.2)) (hok : StOk s) (h9 : σ.2.length + s.2.2.length ≤ 100000) :
    Calls Tryd.prog 12 #[.pointer (some ⟨b, 0, none⟩), .agg #[.int .i64 s.1, .int .i64 s.2.1, v]] w fun e w' => ∃ (σ' : Que) (t : Sad) (p' pa : Option Addr) (ca : Nat), e = .returned (.agg #[.slice pa t.1.length ca, .int .i64 t.2.1, .bool t.2.2.1, .int .i64 t.2.2.2]) ∧
      w'.ownsRow w.heap.size 45 2 (.slice pa t.1.length ca) t.1.length (pfl t.1) ∧ PSt w' b m p' σ'.2 σ'.1 dup ∧ PqFr b m (obk p) (obk p') w w' ∧ PStep dup σ s σ' t := by
  obtain ⟨op, n, its⟩ := s
  obtain ⟨gone, q⟩ := σ
  simp only at H hv h9 ⊢
  have hnil : ∀ w' : World, w'.ownsRow w.heap.size 45 2 (.slice none 0 0) 0 (pfl []) := fun w' => by simpa [pfl, pits] using World.ownsRow_nil w' w.heap.size 45 2
  have hq9 : q.length ≤ 100000 := by omega
  have hgo : gone = true → q = [] := by obtain ⟨c, L, ks, h1, h2, h3, h4, h5⟩ := H.h; exact h5
  have hcase : op = 1 ∨ op = 2 ∨ op = 3 ∨ op = 4 ∨ op = 5 ∨ op = 6 ∨ op = 7 := by have h1 : 1 ≤ op := hok.lo; have h2 : op ≤ 7 := hok.hi; omega
  rcases hcase with rfl | rfl | rfl | rfl | rfl | rfl | rfl
  · refine (pstep1 a0 a1 a2 b m p q its gone dup n v w hS H hv (hok.put rfl) h9).mono ?_
    rintro e w' ⟨rfl, p', hp, hf⟩
    cases gone with
    | true => exact ⟨(true, q), ([], 0, false, 1), p', none, 0, rfl, hnil w', hp, hf, by simp [PStep]⟩
    | false => exact ⟨(false, putAll dup q its), ([], 0, false, 0), p', none, 0, rfl, hnil w', hp, hf, by simp [PStep]⟩
  · have hg := hok.get rfl
    have hg1 : 1 ≤ n := hg.1
    have hg2 : n ≤ 1000 := hg.2
    obtain ⟨N, rfl⟩ : ∃ N : Nat, n = (N : Int) := ⟨n.toNat, by omega⟩
    cases gone with
    | true =>
      refine (pstep2g a0 a1 a2 b m p q dup N v w H hq9 hS (by omega) (by omega)).mono ?_
      rintro e w' ⟨rfl, hp, hf⟩
      exact ⟨(true, q), ([], 0, false, 1), p, none, 0, rfl, hnil w', hp, hf, by simp [PStep]⟩
    | false =>
      by_cases hq : q = []
      · refine (pstep2e b m p q dup N v w H hq9 hq (by omega)).mono ?_
        rintro e w' ⟨rfl, hp, hf⟩
        exact ⟨(false, q), ([], 0, false, -1), p, none, 0, rfl, hnil w', hp, hf, by simp [PStep, hq]⟩
      · refine (pstep2 b m p q dup N v w H hq (by omega) (by omega) hq9).mono ?_
        rintro e w' ⟨pa, ca, got, q', rfl, ho, hp, ht, hl, hf⟩
        have hb := takes_b ht
        exact ⟨(false, eraseAll q got), (got, 0, false, 0), p, pa, ca, rfl, ho, hp.perm hb.2, hf, by simp [PStep, hq, hb.1, hl]⟩
  · by_cases hq : q = []
    · refine (pstep3e b m p q gone dup n v w H hq9 hq).mono ?_
      rintro e w' ⟨rfl, hp, hf⟩
      exact ⟨(gone, q), ([], 0, false, 0), p, none, 0, rfl, hnil w', hp, hf, by simp [PStep, hq]⟩
    · refine (pstep3 b m p q gone dup n v w H hq9 hq).mono ?_
      rintro e w' ⟨g, ca, x, rfl, ho, hx, hm, hp, hf⟩
      exact ⟨(gone, q), ([x], 0, false, 0), p, some ⟨g, 0, none⟩, ca, rfl, by simpa [pfl_one] using ho, hp, hf, .inr (.inr (.inr (.inr (.inr (.inr (.inl ⟨rfl, hq, rfl, x, hx, hm, rfl⟩))))))⟩
  · refine (pstep4 b m p q gone dup n v w H hq9 _ rfl).mono ?_
    rintro e w' ⟨rfl, hp, hf⟩
    exact ⟨(gone, q), ([], (q.length : Int), false, 0), p, none, 0, rfl, hnil w', hp, hf, by simp [PStep]⟩
  · refine (pstep5 b m p q gone dup n v w H hq9 _ rfl).mono ?_
    rintro e w' ⟨rfl, hp, hf⟩
    exact ⟨(gone, q), ([], 0, decide (q.length = 0), 0), p, none, 0, rfl, hnil w', hp, hf, by simp [PStep]⟩
  · refine (pstep6 b m p q gone dup n v w H hq9).mono ?_
    rintro e w' ⟨rfl, hp, hf⟩
    exact ⟨(true, []), ([], 0, false, 0), none, none, 0, rfl, hnil w', hp, hf, by simp [PStep]⟩
  · refine (pstep7 b m p q gone dup n v w H hq9).mono ?_
    rintro e w' ⟨rfl, hp, hf⟩
    exact ⟨(gone, q), ([], 0, gone, 0), p, none, 0, rfl, hnil w', hp, hf, by simp [PStep]⟩
end Go.Proofs.YtepjailijekepaaDoor
