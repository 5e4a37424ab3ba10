/- Plain laws: numbers put one after the other into a sorted list, each once, and a sorted list whose repetitions are left out, are one list. No program in sight. -/
import Derived.Test.YtepjailijekepaaIsIns
import Derived.Test.YtepjailijekepaaIsSort
namespace Go.Proofs.Ytepjailijekepaa
set_option linter.unusedVariables false
open Go.RowKit Go.Sort Go.Lib

/-- strictly ascending -/
def Asc (l : List Int) : Prop := l.Pairwise (· < ·)

theorem asc_ext : ∀ (a b : List Int), Asc a → Asc b → (∀ x, x ∈ a ↔ x ∈ b) → a = b
  | [], [], _, _, _ => rfl
  | [], y :: b, _, _, h => absurd ((h y).2 List.mem_cons_self) (by simp)
  | x :: a, [], _, _, h => absurd ((h x).1 List.mem_cons_self) (by simp)
  | x :: a, y :: b, ha, hb, h => by
    obtain ⟨h1, h2⟩ := List.pairwise_cons.1 ha
    obtain ⟨h3, h4⟩ := List.pairwise_cons.1 hb
    have e : x = y := by
      rcases List.mem_cons.1 ((h x).1 List.mem_cons_self) with e | e
      · exact e
      · rcases List.mem_cons.1 ((h y).2 List.mem_cons_self) with e' | e'
        · exact e'.symm
        · have := h1 y e'; have := h3 x e; omega
    subst e
    rw [asc_ext a b h2 h4 (fun z => ⟨fun hz => by
      rcases List.mem_cons.1 ((h z).1 (List.mem_cons_of_mem _ hz)) with e | e
      · have := h1 z hz; omega
      · exact e, fun hz => by
      rcases List.mem_cons.1 ((h z).2 (List.mem_cons_of_mem _ hz)) with e | e
      · have := h3 z hz; omega
      · exact e⟩)]

theorem Asc.ordered {l : List Int} (h : Asc l) : Ordered l := fun p q hpq hq => by
  have := List.pairwise_iff_getElem.1 h p q (by omega) hq hpq
  simp [List.getD_eq_getElem?_getD, hq, show p < l.length from by omega]; omega

theorem asc_split {l : List Int} (h : Asc l) (x : Int) (hx : ¬ x ∈ l) : (∀ y ∈ l.take (Ism.less x l), y < x) ∧ (∀ y ∈ l.drop (Ism.less x l), x < y) := by
  induction l with
  | nil => simp
  | cons a l ih =>
    obtain ⟨h1, h2⟩ := List.pairwise_cons.1 h
    have hxa : x ≠ a := fun e => hx (by simp [e])
    have hxl : ¬ x ∈ l := fun e => hx (List.mem_cons_of_mem _ e)
    obtain ⟨i1, i2⟩ := ih h2 hxl
    by_cases c : a < x
    · have e : Ism.less x (a :: l) = Ism.less x l + 1 := by unfold Ism.less; simp [c]
      rw [e]
      simp only [List.take_succ_cons, List.drop_succ_cons]
      exact ⟨fun y hy => by
        rcases List.mem_cons.1 hy with e | e
        · omega
        · exact i1 y e, i2⟩
    · have e : Ism.less x (a :: l) = 0 := by
        unfold Ism.less
        rw [List.countP_eq_zero]
        intro y hy
        rcases List.mem_cons.1 hy with e | e
        · simp; omega
        · have := h1 y e; simp; omega
      rw [e]
      simp only [List.take_zero, List.drop_zero]
      refine ⟨fun y hy => by simp at hy, fun y hy => ?_⟩
      rcases List.mem_cons.1 hy with e | e
      · omega
      · have := h1 y e; omega

theorem insI_asc {l : List Int} (h : Asc l) (x : Int) : Asc (insI x l) := by
  unfold insI
  split
  · exact h
  · rename_i hx
    obtain ⟨h1, h2⟩ := asc_split h x hx
    unfold Asc
    rw [List.pairwise_append, List.pairwise_cons]
    refine ⟨List.Pairwise.sublist (List.take_sublist _ _) h, ⟨h2, List.Pairwise.sublist (List.drop_sublist _ _) h⟩, fun a ha b hb => ?_⟩
    rcases List.mem_cons.1 hb with e | e
    · rw [e]; exact h1 a ha
    · have := h1 a ha; have := h2 b e; omega
theorem insI_mem {l : List Int} (x y : Int) : y ∈ insI x l ↔ y = x ∨ y ∈ l := by
  unfold insI
  split
  · rename_i hx
    exact ⟨fun h => .inr h, fun h => h.elim (fun e => e ▸ hx) (fun h => h)⟩
  · conv => rhs; rw [← List.take_append_drop (Ism.less x l) l]
    simp only [List.mem_append, List.mem_cons]
    exact or_left_comm

/-- the numbers put one after the other -/
def grown (xs : List Int) : List Int := xs.foldl (fun l x => insI x l) []
theorem grown_snoc (xs : List Int) (x : Int) : grown (xs ++ [x]) = insI x (grown xs) := by simp [grown]
theorem foldl_asc (xs : List Int) : ∀ l, Asc l → Asc (xs.foldl (fun l x => insI x l) l) := by
  induction xs with
  | nil => exact fun l h => h
  | cons x xs ih => exact fun l h => ih _ (insI_asc h x)
theorem foldl_mem (xs : List Int) : ∀ l y, y ∈ xs.foldl (fun l x => insI x l) l ↔ y ∈ xs ∨ y ∈ l := by
  induction xs with
  | nil => intro l y; simp
  | cons x xs ih =>
    intro l y
    simp only [List.foldl_cons, ih, insI_mem, List.mem_cons]
    rw [← or_assoc, or_comm (a := y ∈ xs)]
theorem grown_asc (xs : List Int) : Asc (grown xs) := foldl_asc xs [] List.Pairwise.nil
theorem grown_mem (xs : List Int) (y : Int) : y ∈ grown xs ↔ y ∈ xs := by unfold grown; rw [foldl_mem]; simp
theorem foldl_len (xs : List Int) : ∀ l : List Int, (xs.foldl (fun l x => insI x l) l).length ≤ xs.length + l.length := by
  induction xs with
  | nil => intro l; simp
  | cons x xs ih => intro l; have := ih (insI x l); have := insI_len x l; simp only [List.foldl_cons, List.length_cons]; omega
theorem grown_len (xs : List Int) : (grown xs).length ≤ xs.length := foldl_len xs []

theorem compact_asc (d : Array Int) (hd : ∀ p q, p < q → q < d.size → d[p]! ≤ d[q]!) : ∀ m, m ≤ d.size → Asc (compactUpTo d m) ∧ (∀ x ∈ compactUpTo d m, ∀ q, m ≤ q + 1 → q < d.size → x ≤ d[q]!) ∧ ∀ x, x ∈ compactUpTo d m ↔ ∃ j, j < m ∧ d[j]! = x := by
  intro m
  induction m with
  | zero => intro _; refine ⟨List.Pairwise.nil, ?_, ?_⟩ <;> simp [compactUpTo]
  | succ m ih =>
    intro hm
    obtain ⟨i1, i2, i3⟩ := ih (by omega)
    rw [compactUpTo_succ]
    by_cases hk : keeps d m = true
    · rw [if_pos hk]
      have hlt : ∀ x ∈ compactUpTo d m, x < d[m]! := fun x hx => by
        obtain ⟨j, hj, e⟩ := (i3 x).1 hx
        have h1 := i2 x hx (m - 1) (by omega) (by omega)
        have h2 := hd (m - 1) m (by omega) (by omega)
        have h3 : d[m]! ≠ d[m - 1]! := by
          simp only [keeps, decide_eq_true_eq] at hk
          rcases hk with h | h
          · omega
          · exact h
        omega
      refine ⟨?_, fun x hx q h1 h2 => ?_, fun x => ?_⟩
      · unfold Asc
        rw [List.pairwise_append]
        exact ⟨i1, List.pairwise_singleton _ _, fun a ha b hb => by rw [List.mem_singleton.1 hb]; exact hlt a ha⟩
      · have h4 : d[m]! ≤ d[q]! := by
          by_cases e : m = q
          · rw [e]; exact Int.le_refl _
          · exact hd m q (by omega) h2
        rcases List.mem_append.1 hx with h | h
        · have := hlt x h; omega
        · rw [List.mem_singleton.1 h]; exact h4
      · rw [List.mem_append, i3, List.mem_singleton]
        constructor
        · rintro (⟨j, h1, h2⟩ | h)
          · exact ⟨j, by omega, h2⟩
          · exact ⟨m, by omega, h.symm⟩
        · rintro ⟨j, h1, h2⟩
          by_cases e : j = m
          · right; rw [← h2, e]
          · exact .inl ⟨j, by omega, h2⟩
    · rw [if_neg hk, List.append_nil]
      have hm0 : m ≠ 0 ∧ d[m]! = d[m - 1]! := by
        simp only [keeps, decide_eq_true_eq, not_or, ne_eq, Decidable.not_not] at hk
        exact hk
      refine ⟨i1, fun x hx q h1 h2 => i2 x hx q (by omega) h2, fun x => ?_⟩
      rw [i3]
      constructor
      · rintro ⟨j, h1, h2⟩; exact ⟨j, by omega, h2⟩
      · rintro ⟨j, h1, h2⟩
        by_cases e : j = m
        · exact ⟨m - 1, by omega, by rw [← hm0.2, ← h2, e]⟩
        · exact ⟨j, by omega, h2⟩

/-- what Compact leaves of the sorted list is what was put one after the other -/
theorem compact_grown (xs ys : List Int) (h : Sorted xs ys) : compactUpTo ys.toArray ys.length = grown xs := by
  have hd : ∀ p q, p < q → q < ys.toArray.size → ys.toArray[p]! ≤ ys.toArray[q]! := fun p q h1 h2 => by
    have h2' : q < ys.length := by simpa using h2
    have := h.2 p q h1 h2'
    simpa [List.getD_eq_getElem?_getD, h2', show p < ys.length from by omega] using this
  obtain ⟨h1, _, h3⟩ := compact_asc ys.toArray hd ys.length (by simp)
  refine asc_ext _ _ h1 (grown_asc xs) fun x => ?_
  rw [h3, grown_mem, ← h.1.mem_iff]
  constructor
  · rintro ⟨j, hj, e⟩
    rw [← e]
    simp [hj]
  · intro hx
    obtain ⟨j, hj, e⟩ := List.mem_iff_getElem.1 hx
    exact ⟨j, hj, by simpa [hj] using e⟩
end Go.Proofs.Ytepjailijekepaa
