/- The head of the laws of two bitsets. -/
import Derived.Test.YtbcbkieebelleaaBsFlip
import Derived.Deep.RegionHeld3
namespace Go.Proofs.Ytbcbkieebelleaa
set_option linter.unusedVariables false
open Go.RowKit

/-- what has blocks before w' is as in w, but in the blocks X and Y -/
def Far (w w' : World) (X Y : Nat) : Prop := w.heap.size ≤ w'.heap.size ∧ ∀ b, b < w.heap.size → b ≠ X → b ≠ Y → w'.heap[b]? = w.heap[b]?
theorem Far.refl (w : World) (X Y : Nat) : Far w w X Y := ⟨Nat.le_refl _, fun _ _ _ _ => rfl⟩
theorem Far.drew {w w' : World} {X Y : Nat} (h : Far w w' X Y) : Far w w'.drew X Y := h
theorem Far.alloc {w w' : World} {X Y : Nat} (h : Far w w' X Y) (o : Obj) : Far w (w'.alloc o) X Y :=
  ⟨Nat.le_trans h.1 (by simp), fun b hb h1 h2 => (Below.heap_alloc w' o b (Nat.lt_of_lt_of_le hb h.1)).trans (h.2 b hb h1 h2)⟩
theorem Far.setCell {w w' : World} {X Y : Nat} (h : Far w w' X Y) {a : Addr} (ha : a.block = X ∨ a.block = Y) (u : Value) : Far w (w'.setCell a u) X Y :=
  ⟨Nat.le_trans h.1 (by simp [World.setCell]), fun b hb h1 h2 => (Below.heap_setCell w' a u b (by rintro rfl; rcases ha with h | h <;> simp_all)).trans (h.2 b hb h1 h2)⟩
theorem Far.below {w w' w2 : World} {X Y : Nat} (h : Far w w' X Y) (hb : Below w'.heap.size w' w2) : Far w w2 X Y :=
  ⟨Nat.le_trans h.1 hb.size, fun b hl h1 h2 => (hb.block b (Nat.lt_of_lt_of_le hl h.1)).trans (h.2 b hl h1 h2)⟩
theorem OwnBits.far {B X Y : Nat} {w w' : World} {v : Value} {bs : List Bool} (h : OwnBits B w v bs) (hf : Far w w' X Y) (hx : ∀ g, B ≤ g → g < w.heap.size → g ≠ X ∧ g ≠ Y) : IsBits w' v bs := by
  obtain ⟨p, m, c, rfl, ho⟩ := h
  refine ⟨_, rfl, ?_⟩
  have hs := Sl.of_owns ho
  obtain ⟨a, n, cap, e, h1, h2, h3, h4⟩ := hs
  simp only [Value.slice.injEq] at e
  obtain ⟨rfl, rfl, rfl⟩ := e
  refine ⟨p, m, c, rfl, h1, h2, h3, fun h0 => ?_⟩
  obtain ⟨b, off, rfl, h5⟩ := h4 h0
  refine ⟨b, off, rfl, fun i u hu => ?_⟩
  have h6 := h5 i u hu
  have hlt := World.block_lt_of_cell? w _ h6
  have hB : B ≤ b := by
    rcases ho.2 with ⟨e, _⟩ | ⟨g, cap, cur, e, hbg, _⟩
    · simp at e
    · simp only [Value.slice.injEq, Option.some.injEq, Addr.mk.injEq] at e
      rw [e.1.1]; exact hbg
  obtain ⟨h7, h8⟩ := hx b hB hlt
  rw [World.cell?_of_block (hf.2 b hlt h7 h8)]
  exact h6

theorem st0 {W : World} {b : Nat} {u v : Value} (h : ∃ x, W.cell? ⟨b, 0, none⟩ = some x) : ((W.setCell ⟨b, 0, none⟩ u).setCell ⟨b, 1, none⟩ v).cell? ⟨b, 0, none⟩ = some u :=
  (World.cell?_setCell_other _ ⟨b, 1, none⟩ ⟨b, 0, none⟩ v (by simp)).trans (World.cell?_setCell_same _ ⟨b, 0, none⟩ u h.choose_spec)
theorem st1 {W : World} {b : Nat} {u v : Value} (h : ∃ x, W.cell? ⟨b, 1, none⟩ = some x) : ((W.setCell ⟨b, 0, none⟩ u).setCell ⟨b, 1, none⟩ v).cell? ⟨b, 1, none⟩ = some v :=
  World.cell?_setCell_same _ ⟨b, 1, none⟩ v ((World.cell?_setCell_other _ ⟨b, 0, none⟩ ⟨b, 1, none⟩ u (by simp)).trans h.choose_spec)
theorem st_far {W : World} {b c o : Nat} {u v : Value} (h : b ≠ c) : ((W.setCell ⟨b, 0, none⟩ u).setCell ⟨b, 1, none⟩ v).cell? ⟨c, o, none⟩ = W.cell? ⟨c, o, none⟩ :=
  (World.cell?_setCell_far _ ⟨b, 1, none⟩ ⟨c, o, none⟩ v h).trans (World.cell?_setCell_far _ ⟨b, 0, none⟩ ⟨c, o, none⟩ u h)
theorem ex_far {W : World} {b c o : Nat} {u v : Value} (h : b ≠ c) (h2 : ∃ x, W.cell? ⟨c, o, none⟩ = some x) : ∃ x, ((W.setCell ⟨b, 0, none⟩ u).setCell ⟨b, 1, none⟩ v).cell? ⟨c, o, none⟩ = some x := by
  rw [st_far h]; exact h2
theorem al0 {W : World} {n : Nat} {u v : Value} {t : TypeId} (h : n = W.heap.size) : (W.alloc (.cells #[u, v] t)).cell? ⟨n, 0, none⟩ = some u := by rw [World.cell?_alloc_at _ _ _ _ h]; rfl
theorem al1 {W : World} {n : Nat} {u v : Value} {t : TypeId} (h : n = W.heap.size) : (W.alloc (.cells #[u, v] t)).cell? ⟨n, 1, none⟩ = some v := by rw [World.cell?_alloc_at _ _ _ _ h]; rfl
theorem al_far {W : World} {n i : Nat} {o : Obj} (h : n < W.heap.size) : (W.alloc o).cell? ⟨n, i, none⟩ = W.cell? ⟨n, i, none⟩ := World.cell?_alloc_past _ _ _ h

def TwoCut (w : World) (s5 s6 : Value) (wx : World) : Prop :=
  ∃ (A D : Nat) (xs ys : List Bool) (p p2 : Option Addr) (m c m2 c2 : Nat), s5 = .pointer (some ⟨A, 0, none⟩) ∧ s6 = .pointer (some ⟨D, 0, none⟩) ∧ xs.length ≤ 400 ∧ ys.length ≤ 400 ∧
    (wx.cell? ⟨A, 0, none⟩ = some (.int .u64 (xs.length : Int)) ∧ wx.cell? ⟨A, 1, none⟩ = some (.slice p m c) ∧ wx.cell? ⟨D, 0, none⟩ = some (.int .u64 (ys.length : Int)) ∧ wx.cell? ⟨D, 1, none⟩ = some (.slice p2 m2 c2)) ∧
    IsBits wx (.agg #[.int .u64 (xs.length : Int), .slice p m c]) xs ∧ IsBits wx (.agg #[.int .u64 (ys.length : Int), .slice p2 m2 c2]) ys ∧ Below w.heap.size w wx
theorem TwoCut.mk' {w w4 w5 wx : World} {A D B1 B2 : Nat} {xs ys : List Bool} {p p2 : Option Addr} {m c m2 c2 : Nat} (h1 : OwnBits B1 w4 (.agg #[.int .u64 (xs.length : Int), .slice p m c]) xs) (h2 : OwnBits B2 w5 (.agg #[.int .u64 (ys.length : Int), .slice p2 m2 c2]) ys)
    (hx : xs.length ≤ 400) (hy : ys.length ≤ 400) (hf1 : Far w4 wx A D) (hf2 : Far w5 wx A D) (hg1 : ∀ g, B1 ≤ g → g < w4.heap.size → g ≠ A ∧ g ≠ D) (hg2 : ∀ g, B2 ≤ g → g < w5.heap.size → g ≠ A ∧ g ≠ D) (hb : Below w.heap.size w wx)
    (a0 : wx.cell? ⟨A, 0, none⟩ = some (.int .u64 (xs.length : Int))) (a1 : wx.cell? ⟨A, 1, none⟩ = some (.slice p m c)) (d0 : wx.cell? ⟨D, 0, none⟩ = some (.int .u64 (ys.length : Int))) (d1 : wx.cell? ⟨D, 1, none⟩ = some (.slice p2 m2 c2)) :
    TwoCut w (.pointer (some ⟨A, 0, none⟩)) (.pointer (some ⟨D, 0, none⟩)) wx :=
  ⟨A, D, xs, ys, p, p2, m, c, m2, c2, rfl, rfl, hx, hy, ⟨a0, a1, d0, d1⟩, h1.far hf1 hg1, h2.far hf2 hg2, hb⟩
end Go.Proofs.Ytbcbkieebelleaa
