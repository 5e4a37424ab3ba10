/- Walk of spec.BSDelete. -/
import Derived.Test.YtbcbkieebelleaaBsDelete
namespace Go.Proofs.Ytbcbkieebelleaa
set_option linter.unusedVariables false
open Go.RowKit

set_option maxRecDepth 100000 in
theorem run_bslice_to (a : Option Addr) (n cap m : Nat) (k : IntKind) (h : Int) (hh : h = (m : Int)) (hm : m ≤ cap) (W : World) :
    (Instr.slice 32 (.slice a n cap) none (some (.int k h)) none).run Try.prog W = .ok (.slice a m cap) W := by
  subst hh
  rw [run_slice_h (P := Try.prog) (t := 32) (a := a) (len := n) (cap := cap) (ht := Try.underlying32) (kh := k) (h := (m : Int)) (h0 := by omega) (h2 := by omega)]
  have e0 : ∀ p : Addr, p.add 0 = p := fun p => by cases p; simp [Addr.add]
  have es : ((sizeOf (Try.prog.elem 32)).run Try.prog W) = .ok 1 W := by kernel_rfl
  rw [es]
  simp [Result.andThen, sliced]
  intro _
  cases a <;> simp [e0]
set_option maxRecDepth 100000 in
theorem run_bslice_from (a : Option Addr) (n cap m : Nat) (k : IntKind) (h : Int) (hh : h = (m : Int)) (hm : m ≤ n) (hc : n ≤ cap) :
    ∃ a', (m < n → a' = a.map (·.add m)) ∧ ∀ W, (Instr.slice 32 (.slice a n cap) (some (.int k h)) none none).run Try.prog W = .ok (.slice a' (n - m) (cap - m)) W := by
  subst hh
  refine ⟨if cap = m then a else a.map (·.add m), fun hlt => by rw [if_neg (by omega)], fun W => ?_⟩
  rw [run_slice_l (P := Try.prog) (t := 32) (a := a) (len := n) (cap := cap) (ht := Try.underlying32) (kl := k) (l := (m : Int)) (h0 := by omega) (h1 := by omega)]
  have es : ((sizeOf (Try.prog.elem 32)).run Try.prog W) = .ok 1 W := by kernel_rfl
  rw [es]
  simp [Result.andThen, sliced]
theorem Sl.take {w : World} {a : Option Addr} {n cap : Nat} {vs : List Value} (h : Sl w (.slice a n cap) vs) (m : Nat) (hm : m ≤ n) : Sl w (.slice a m cap) (vs.take m) := by
  obtain ⟨a', n', c', e, h1, h2, h3, h4⟩ := h
  simp only [Value.slice.injEq] at e
  obtain ⟨rfl, rfl, rfl⟩ := e
  refine ⟨a, m, cap, rfl, by simp; omega, by omega, h3, fun h0 => ?_⟩
  obtain ⟨b, off, rfl, hc⟩ := h4 (by omega)
  refine ⟨b, off, rfl, fun i u hu => hc i u ?_⟩
  rw [List.getElem?_take] at hu
  split at hu
  · exact hu
  · cases hu
theorem Sl.drop {w : World} {a a' : Option Addr} {n cap : Nat} {vs : List Value} (h : Sl w (.slice a n cap) vs) (m : Nat) (hm : m ≤ n) (ha : m < n → a' = a.map (·.add m)) : Sl w (.slice a' (n - m) (cap - m)) (vs.drop m) := by
  obtain ⟨a1, n1, c1, e, h1, h2, h3, h4⟩ := h
  simp only [Value.slice.injEq] at e
  obtain ⟨rfl, rfl, rfl⟩ := e
  refine ⟨a', n - m, cap - m, rfl, by simp; omega, by omega, by omega, fun h0 => ?_⟩
  obtain ⟨b, off, rfl, hc⟩ := h4 (by omega)
  refine ⟨b, off + m, by rw [ha (by omega)]; simp [addr_add], fun i u hu => ?_⟩
  rw [List.getElem?_drop] at hu
  rw [Nat.add_assoc]
  exact hc _ u hu

end Go.Proofs.Ytbcbkieebelleaa
