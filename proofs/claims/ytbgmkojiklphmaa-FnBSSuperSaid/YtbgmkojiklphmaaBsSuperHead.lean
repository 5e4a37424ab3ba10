/- The head of the law FnBSSuper. -/
import Derived.Test.YtbgmkojiklphmaaBsTwoHead
import Derived.Test.YtbgmkojiklphmaaBsInterImpl
namespace Go.Proofs.Ytbgmkojiklphmaa
set_option linter.unusedVariables false
open Go.RowKit
def TwoCutF (w : World) (s5 s6 : Value) (wx : World) : Prop := TwoCut w s5 s6 wx ∧ (∀ D, s6 = .pointer (some ⟨D, 0, none⟩) → wx.frozen? ⟨D, 1, none⟩ = false) ∧ ∀ A D, s5 = .pointer (some ⟨A, 0, none⟩) → s6 = .pointer (some ⟨D, 0, none⟩) → (¬ D = A ∧ w.heap.size ≤ D)
theorem Sl.setWord {w : World} {v : Value} {l : List Nat} (h : Sl w v (u64s l)) {p : Addr} {a : Option Addr} {n c : Nat} (hp : w.cell? p = some (.slice a n c)) (u : Value) : Sl (w.setCell p u) v (u64s l) := by
  obtain ⟨a', n', c', rfl, h1, h2, h3, h4⟩ := h
  refine ⟨a', n', c', rfl, h1, h2, h3, fun h0 => ?_⟩
  obtain ⟨b, off, rfl, hc⟩ := h4 h0
  refine ⟨b, off, rfl, fun i x hx => ?_⟩
  have h5 := hc i x hx
  rw [World.cell?_setCell_other _ _ _ _ ?_]; exact h5
  intro e
  rw [← e, hp] at h5
  have hxm := List.mem_of_getElem? hx
  simp only [u64s, List.mem_map] at hxm
  obtain ⟨y, _, rfl⟩ := hxm
  simp at h5
theorem IsBits.setWord {w : World} {v : Value} {bs : List Bool} (h : IsBits w v bs) {p : Addr} {a : Option Addr} {n c : Nat} (hp : w.cell? p = some (.slice a n c)) (u : Value) : IsBits (w.setCell p u) v bs := by
  obtain ⟨s, rfl, hs⟩ := h
  exact ⟨s, rfl, hs.setWord hp u⟩
def andl (xs ys : List Bool) : List Bool := (List.range ys.length).map fun j => xs.getD j false && ys.getD j false
theorem andl_len (xs ys : List Bool) : (andl xs ys).length = ys.length := by simp [andl]
theorem andl_pos (xs ys : List Bool) : Bsm.pos (andl xs ys) = Bsm.pos (twos 1 xs ys) := by
  apply Bsm.pos_congr
  intro j
  rw [twos_get _ _ _ (by omega)]
  unfold andl
  simp only [List.getD_eq_getElem?_getD, List.getElem?_map, List.getElem?_range']
  by_cases h : j < ys.length
  · simp [h, two]
  · rw [List.getElem?_eq_none (l := ys) (by omega)]; simp [h, two]
def SupCut (w : World) (A D : Nat) (xs : List Bool) (wx : World) : Prop :=
  ∃ (zs : List Bool) (p p2 : Option Addr) (m c m2 c2 : Nat), zs.length ≤ 400 ∧
    (wx.cell? ⟨A, 0, none⟩ = some (.int .u64 (xs.length : Int)) ∧ wx.cell? ⟨A, 1, none⟩ = some (.slice p m c) ∧ wx.cell? ⟨D, 0, none⟩ = some (.int .u64 (zs.length : Int)) ∧ wx.cell? ⟨D, 1, none⟩ = some (.slice p2 m2 c2)) ∧
    IsBits wx (.agg #[.int .u64 (xs.length : Int), .slice p m c]) xs ∧ IsBits wx (.agg #[.int .u64 (zs.length : Int), .slice p2 m2 c2]) zs ∧ Below w.heap.size w wx
theorem TwoCutF.mk' {w : World} {A D : Nat} {wx : World} (h : TwoCut w (.pointer (some ⟨A, 0, none⟩)) (.pointer (some ⟨D, 0, none⟩)) wx) (hf : wx.frozen? ⟨D, 1, none⟩ = false) (hne : ¬ D = A) (hge : w.heap.size ≤ D) : TwoCutF w (.pointer (some ⟨A, 0, none⟩)) (.pointer (some ⟨D, 0, none⟩)) wx :=
  ⟨h, fun D' e => by simp only [Value.pointer.injEq, Option.some.injEq, Addr.mk.injEq, and_true] at e; subst e; exact hf, fun A' D' e1 e2 => by simp only [Value.pointer.injEq, Option.some.injEq, Addr.mk.injEq, and_true] at e1 e2; subst e1; subst e2; exact ⟨hne, hge⟩⟩
end Go.Proofs.Ytbgmkojiklphmaa
