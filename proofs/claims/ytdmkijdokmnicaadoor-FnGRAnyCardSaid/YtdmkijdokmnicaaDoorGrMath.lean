/- Graphs as lists of vertices and edges: the plain law. No program in sight. -/
import Derived.Test.YtdmkijdokmnicaaDoorSetBase
namespace Go.Proofs.YtdmkijdokmnicaaDoor
set_option linter.unusedVariables false
namespace Gr
abbrev Ed := Int × Int
def joined (E : List Ed) (x y : Int) : Prop := (x, y) ∈ E ∨ (y, x) ∈ E
instance (E : List Ed) (x y : Int) : Decidable (joined E x y) := inferInstanceAs (Decidable (_ ∨ _))
theorem joined_comm {E : List Ed} {x y : Int} : joined E x y ↔ joined E y x := or_comm
def add1 (V : List Int) (x : Int) : List Int := if x ∈ V then V else V ++ [x]
theorem add1_mem {V : List Int} {x y : Int} : y ∈ add1 V x ↔ y ∈ V ∨ y = x := by
  unfold add1; split
  · rename_i h
    constructor
    · exact .inl
    · rintro (h1 | rfl)
      · exact h1
      · exact h
  · simp
theorem add1_nodup {V : List Int} {x : Int} (h : V.Nodup) : (add1 V x).Nodup := by
  unfold add1; split
  · exact h
  · rename_i hn
    rw [List.nodup_append]
    refine ⟨h, by simp, fun a ha b hb => ?_⟩
    simp only [List.mem_singleton] at hb
    subst hb
    intro e; subst e; exact hn ha
theorem add1_len {V : List Int} {x : Int} : (add1 V x).length ≤ V.length + 1 := by unfold add1; split <;> simp
abbrev St := List Int × List Ed
def step (g : St) (x : Ed) : St := if x.1 = x.2 then g else if joined g.2 x.1 x.2 then g else (add1 (add1 g.1 x.1) x.2, g.2 ++ [x])
def err (g : St) (x : Ed) : Int := if x.1 = x.2 then 2 else if joined g.2 x.1 x.2 then 3 else 0
def run (l : List Ed) : St := l.foldl step ([], [])
theorem run_snoc (l : List Ed) (x : Ed) : run (l ++ [x]) = step (run l) x := by unfold run; rw [List.foldl_append]; rfl
def adj (E : List Ed) (x : Int) : List Int := E.filterMap fun e => if e.1 = x then some e.2 else if e.2 = x then some e.1 else none
theorem adj_snoc (E : List Ed) (e : Ed) (x : Int) : adj (E ++ [e]) x = adj E x ++ (if e.1 = x then [e.2] else if e.2 = x then [e.1] else []) := by
  unfold adj
  rw [List.filterMap_append]
  congr 1
  by_cases h : e.1 = x
  · simp [h]
  · by_cases h2 : e.2 = x <;> simp [h, h2]
theorem mem_adj (E : List Ed) (x y : Int) : y ∈ adj E x ↔ joined E x y := by
  unfold adj joined
  rw [List.mem_filterMap]
  constructor
  · rintro ⟨⟨a, b⟩, he, h⟩
    by_cases h1 : a = x
    · simp [h1] at h; subst h; subst h1; exact .inl he
    · by_cases h2 : b = x
      · simp [h1, h2] at h; subst h; subst h2; exact .inr he
      · simp [h1, h2] at h
  · rintro (h | h)
    · exact ⟨_, h, by simp⟩
    · refine ⟨_, h, ?_⟩
      by_cases h1 : y = x
      · simp [h1]
      · simp [h1]
/-- the state is sound: no loops, no parallel edges, all ends are vertices -/
def Ok (g : St) : Prop := g.1.Nodup ∧ (∀ e ∈ g.2, e.1 ≠ e.2 ∧ e.1 ∈ g.1 ∧ e.2 ∈ g.1) ∧ (∀ x, (adj g.2 x).Nodup) ∧ (∀ x ∈ g.1, ∃ y, joined g.2 x y) ∧ g.2.Pairwise fun a b => ¬ joined [a] b.1 b.2
theorem ok_nil : Ok ([], []) := ⟨by simp, by simp, by simp [adj], by simp, by simp⟩
theorem ok_step {g : St} (h : Ok g) (x : Ed) : Ok (step g x) := by
  unfold step
  split
  · exact h
  · rename_i hne
    split
    · exact h
    · rename_i hj
      obtain ⟨h1, h2, h3, h4, h5⟩ := h
      refine ⟨add1_nodup (add1_nodup h1), fun e he => ?_, fun y => ?_, fun y hy => ?_, ?_⟩
      · simp only [add1_mem]
        rcases List.mem_append.1 he with he | he
        · have := h2 e he; exact ⟨this.1, .inl (.inl this.2.1), .inl (.inl this.2.2)⟩
        · obtain rfl : e = x := by simpa using he
          exact ⟨hne, .inl (.inr rfl), .inr rfl⟩
      · rw [adj_snoc, List.nodup_append]
        refine ⟨h3 y, ?_, fun a ha b hb => ?_⟩
        · split
          · simp
          · split <;> simp
        · intro e; subst e
          rw [mem_adj] at ha
          by_cases hy1 : x.1 = y
          · simp [hy1] at hb; subst hb; subst hy1; exact hj ha
          · by_cases hy2 : x.2 = y
            · simp [hy1, hy2] at hb; subst hb; subst hy2; exact hj (joined_comm.1 ha)
            · simp [hy1, hy2] at hb
      · simp only [add1_mem] at hy
        rcases hy with (hy | rfl) | rfl
        · obtain ⟨z, hz⟩ := h4 y hy
          exact ⟨z, by unfold joined at hz ⊢; simp only [List.mem_append]; rcases hz with h | h; exact .inl (.inl h); exact .inr (.inl h)⟩
        · exact ⟨x.2, by unfold joined; simp⟩
        · exact ⟨x.1, by unfold joined; simp⟩
      · rw [List.pairwise_append]
        refine ⟨h5, by simp, fun a ha b hb => ?_⟩
        obtain rfl : b = x := by simpa using hb
        intro hab
        apply hj
        unfold joined at hab ⊢
        simp only [List.mem_singleton] at hab
        rcases hab with h | h
        · rw [h]; exact .inl ha
        · rw [h]; exact .inr ha
theorem ok_run (l : List Ed) : Ok (run l) := by
  unfold run
  suffices ∀ g, Ok g → Ok (l.foldl step g) from this _ ok_nil
  induction l with
  | nil => intro g h; exact h
  | cons x r ih => intro g h; exact ih _ (ok_step h x)
theorem not_adj {g : St} (h : Ok g) {x : Int} (hx : x ∉ g.1) : adj g.2 x = [] := by
  apply List.eq_nil_iff_forall_not_mem.2
  intro y hy
  rw [mem_adj] at hy
  rcases hy with hy | hy
  · exact hx (h.2.1 _ hy).2.1
  · exact hx (h.2.1 _ hy).2.2
theorem run_joined (l : List Ed) (x y : Int) : joined (run l).2 x y ↔ x ≠ y ∧ joined l x y := by
  have key : ∀ (l : List Ed) (g : St), Ok g → (joined (l.foldl step g).2 x y ↔ joined g.2 x y ∨ (x ≠ y ∧ joined l x y)) := by
    intro l
    induction l with
    | nil => intro g _; simp [joined]
    | cons e r ih =>
      intro g hg
      rw [List.foldl_cons, ih _ (ok_step hg e)]
      have hc : joined (e :: r) x y ↔ joined [e] x y ∨ joined r x y := by
        unfold joined; simp only [List.mem_cons, List.not_mem_nil, or_false]
        constructor
        · rintro ((h | h) | (h | h))
          · exact .inl (.inl h)
          · exact .inr (.inl h)
          · exact .inl (.inr h)
          · exact .inr (.inr h)
        · rintro ((h | h) | (h | h))
          · exact .inl (.inl h)
          · exact .inr (.inl h)
          · exact .inl (.inr h)
          · exact .inr (.inr h)
      rw [hc]
      have hs : joined (step g e).2 x y ↔ joined g.2 x y ∨ (x ≠ y ∧ joined [e] x y) := by
        obtain ⟨a, b⟩ := e
        unfold step
        have hj1 : joined [(a, b)] x y ↔ (x = a ∧ y = b) ∨ (y = a ∧ x = b) := by unfold joined; simp [Prod.ext_iff]
        split
        · rename_i hab
          simp only at hab
          rw [hj1]
          constructor
          · exact .inl
          · rintro (h | ⟨h1, h2 | h2⟩)
            · exact h
            · exact absurd (h2.1.trans (hab.trans h2.2.symm)) h1
            · exact absurd (h2.2.trans (hab.symm.trans h2.1.symm)) h1
        · rename_i hab
          simp only at hab
          split
          · rename_i hj
            simp only at hj
            rw [hj1]
            constructor
            · exact .inl
            · rintro (h | ⟨h1, h2 | h2⟩)
              · exact h
              · rw [h2.1, h2.2]; exact hj
              · rw [h2.1, h2.2]; exact joined_comm.1 hj
          · have : joined (g.2 ++ [(a, b)]) x y ↔ joined g.2 x y ∨ joined [(a, b)] x y := by
              unfold joined; simp only [List.mem_append]
              constructor
              · rintro ((h | h) | (h | h))
                · exact .inl (.inl h)
                · exact .inr (.inl h)
                · exact .inl (.inr h)
                · exact .inr (.inr h)
              · rintro ((h | h) | (h | h))
                · exact .inl (.inl h)
                · exact .inr (.inl h)
                · exact .inl (.inr h)
                · exact .inr (.inr h)
            show joined (g.2 ++ [(a, b)]) x y ↔ _
            rw [this, hj1]
            refine or_congr Iff.rfl ⟨fun h => ⟨?_, h⟩, fun h => h.2⟩
            rcases h with h | h
            · rw [h.1, h.2]; exact hab
            · rw [h.1, h.2]; exact fun e => hab e.symm
      rw [hs]
      constructor
      · rintro ((h | h) | h)
        · exact .inl h
        · exact .inr ⟨h.1, .inl h.2⟩
        · exact .inr ⟨h.1, .inr h.2⟩
      · rintro (h | ⟨h1, h | h⟩)
        · exact .inl (.inl h)
        · exact .inl (.inr ⟨h1, h⟩)
        · exact .inr ⟨h1, h⟩
  have := key l ([], []) ok_nil
  unfold run
  rw [this]
  simp [joined]
theorem run_mem (l : List Ed) (x : Int) : x ∈ (run l).1 ↔ ∃ y, x ≠ y ∧ joined l x y := by
  have hk := ok_run l
  constructor
  · intro h
    obtain ⟨y, hy⟩ := hk.2.2.2.1 x h
    exact ⟨y, (run_joined l x y).1 hy⟩
  · rintro ⟨y, h⟩
    rcases (run_joined l x y).2 h with h | h
    · exact (hk.2.1 _ h).2.1
    · exact (hk.2.1 _ h).2.2
/-- two lists of edges that join the same -/
def Alike (l k : List Ed) : Prop := ∀ x y, joined l x y ↔ joined k x y
theorem run_same_v {l k : List Ed} (h : Alike l k) : (run l).1.length = (run k).1.length := by
  refine Zs.len_same (ok_run l).1 (ok_run k).1 fun x => ?_
  rw [run_mem, run_mem]
  constructor
  · rintro ⟨y, h1, h2⟩; exact ⟨y, h1, (h x y).1 h2⟩
  · rintro ⟨y, h1, h2⟩; exact ⟨y, h1, (h x y).2 h2⟩
theorem run_same_mem {l k : List Ed} (h : Alike l k) (x : Int) : x ∈ (run l).1 ↔ x ∈ (run k).1 := by
  rw [run_mem, run_mem]
  constructor
  · rintro ⟨y, h1, h2⟩; exact ⟨y, h1, (h x y).1 h2⟩
  · rintro ⟨y, h1, h2⟩; exact ⟨y, h1, (h x y).2 h2⟩
theorem run_same_adj {l k : List Ed} (h : Alike l k) (x y : Int) : y ∈ adj (run l).2 x ↔ y ∈ adj (run k).2 x := by
  rw [mem_adj, mem_adj, run_joined, run_joined, h x y]
def norm (e : Ed) : Ed := if e.1 ≤ e.2 then e else (e.2, e.1)
theorem norm_eq {a b : Ed} : norm a = norm b ↔ joined [a] b.1 b.2 := by
  obtain ⟨a1, a2⟩ := a
  obtain ⟨b1, b2⟩ := b
  unfold norm joined
  simp only [List.mem_singleton, Prod.mk.injEq]
  by_cases h1 : a1 ≤ a2 <;> by_cases h2 : b1 ≤ b2 <;> simp only [h1, h2, if_true, if_false, Prod.mk.injEq] <;> omega
theorem norm_nodup {g : St} (h : Ok g) : (g.2.map norm).Nodup := by
  unfold List.Nodup
  rw [List.pairwise_map]
  refine h.2.2.2.2.imp fun {a b} hab e => hab (norm_eq.1 e)
theorem norm_mem {E : List Ed} {e : Ed} : e ∈ E.map norm ↔ e.1 ≤ e.2 ∧ joined E e.1 e.2 := by
  obtain ⟨a, b⟩ := e
  rw [List.mem_map]
  constructor
  · rintro ⟨⟨c, d⟩, h1, h2⟩
    unfold norm at h2
    by_cases hcd : c ≤ d
    · simp only [hcd, if_true, Prod.mk.injEq] at h2
      obtain ⟨rfl, rfl⟩ := h2
      exact ⟨hcd, .inl h1⟩
    · simp only [hcd, if_false, Prod.mk.injEq] at h2
      obtain ⟨rfl, rfl⟩ := h2
      exact ⟨by simp only; omega, .inr h1⟩
  · rintro ⟨h1, h2 | h2⟩
    · exact ⟨_, h2, by unfold norm; simp only at h1; simp [h1]⟩
    · refine ⟨_, h2, ?_⟩
      unfold norm
      simp only at h1 ⊢
      by_cases hba : b ≤ a
      · have : a = b := by omega
        subst this
        simp
      · simp [hba]
theorem len_same_pair {l k : List Ed} (hl : l.Nodup) (hk : k.Nodup) (h : ∀ x, x ∈ l ↔ x ∈ k) : l.length = k.length := by
  have h1 : l.length ≤ k.length := hl.length_le_of_subset (fun x hx => (h x).1 hx)
  have h2 : k.length ≤ l.length := hk.length_le_of_subset (fun x hx => (h x).2 hx)
  omega
theorem run_same_e {l k : List Ed} (h : Alike l k) : (run l).2.length = (run k).2.length := by
  have := len_same_pair (norm_nodup (ok_run l)) (norm_nodup (ok_run k)) fun e => by
    rw [norm_mem, norm_mem, run_joined, run_joined, h]
  simpa using this
theorem run_len (l : List Ed) : (run l).1.length ≤ 2 * l.length ∧ (run l).2.length ≤ l.length := by
  have key : ∀ (l : List Ed) (g : St), (l.foldl step g).1.length ≤ g.1.length + 2 * l.length ∧ (l.foldl step g).2.length ≤ g.2.length + l.length := by
    intro l
    induction l with
    | nil => intro g; simp
    | cons e r ih =>
      intro g
      rw [List.foldl_cons]
      have h := ih (step g e)
      have h2 : (step g e).1.length ≤ g.1.length + 2 ∧ (step g e).2.length ≤ g.2.length + 1 := by
        unfold step
        split
        · omega
        · split
          · omega
          · have h1 := @add1_len g.1 e.1
            have h2 := @add1_len (add1 g.1 e.1) e.2
            simp only [List.length_append, List.length_cons, List.length_nil]
            omega
      simp only [List.length_cons]
      omega
  have := key l ([], [])
  simpa [run] using this
theorem adj_len (E : List Ed) (x : Int) : (adj E x).length ≤ E.length := List.length_filterMap_le _ _
end Gr
end Go.Proofs.YtdmkijdokmnicaaDoor
