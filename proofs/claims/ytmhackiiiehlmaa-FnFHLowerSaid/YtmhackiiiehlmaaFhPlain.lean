/- Scripts on heaps as lists of priorities: what any run of one says. No program in sight. -/
import Derived.Test.YtmhackiiiehlmaaFhMem
namespace Go.Proofs.Ytmhackiiiehlmaa
set_option linter.unusedVariables false
open Go.RowKit

structure Sd where
  is : Bool
  en : Int
  q : Int
  sz : Int
  em : Bool
def allNone (L : List (Option Int)) : Prop := ∀ (j : Nat) (q : Int), L[j]? ≠ some (some q)
def One1 (x : Int × Int × Int) (L L' : List (Option Int)) (is : Bool) (q : Int) : Prop :=
  (x.1 = 1 ∧ L' = L ++ [some x.2.2] ∧ is = true) ∨
   (x.1 = 3 ∧ (∃ j : Nat, L[j]? = some (some q) ∧ (∀ (i : Nat) (r : Int), L[i]? = some (some r) → q ≤ r) ∧ L' = L.set j none) ∧ is = true) ∨
   (x.1 = 4 ∧ (∃ j : Nat, x.2.1 = (j : Int) ∧ L' = L.set j (some x.2.2)) ∧ is = true) ∨
   (x.1 = 2 ∧ L' = L ∧ is = false)
def OneS (x : Int × Int × Int) (L L' : List (Option Int)) (u : Sd) : Prop := One1 x L L' u.is u.q ∧ (allNone L' → u.em = true)
def PreS (x : Int × Int × Int) (L : List (Option Int)) : Prop :=
  (x.1 = 1 ∧ Sm x.2.2) ∨ (x.1 = 3 ∧ ∃ (j : Nat) (q : Int), L[j]? = some (some q)) ∨
  (x.1 = 4 ∧ ∃ (j : Nat) (q : Int), x.2.1 = (j : Int) ∧ L[j]? = some (some q) ∧ x.2.2 < q ∧ Sm x.2.2) ∨ (x.1 = 2 ∧ allNone L)
def RunsTo : List (Option Int) → List (Int × Int × Int) → List Sd → List (Option Int) → Prop
  | L0, [], U, L => U = [] ∧ L = L0
  | L0, x :: S, U, L => ∃ u U' L', U = u :: U' ∧ OneS x L0 L' u ∧ RunsTo L' S U' L
theorem runs_append : ∀ (S1 S2 : List (Int × Int × Int)) (L0 : List (Option Int)) (U : List Sd) (L : List (Option Int)), RunsTo L0 (S1 ++ S2) U L ↔ ∃ U1 U2 L1, U = U1 ++ U2 ∧ RunsTo L0 S1 U1 L1 ∧ RunsTo L1 S2 U2 L := by
  intro S1
  induction S1 with
  | nil =>
    intro S2 L0 U L
    constructor
    · exact fun h => ⟨[], U, L0, rfl, ⟨rfl, rfl⟩, h⟩
    · rintro ⟨U1, U2, L1, rfl, ⟨rfl, rfl⟩, h⟩
      exact h
  | cons x S1 ih =>
    intro S2 L0 U L
    constructor
    · rintro ⟨u, U', L', rfl, h1, h2⟩
      obtain ⟨U1, U2, L1, rfl, h3, h4⟩ := (ih S2 L' U' L).1 h2
      exact ⟨u :: U1, U2, L1, rfl, ⟨u, U1, L', rfl, h1, h3⟩, h4⟩
    · rintro ⟨U1, U2, L1, rfl, ⟨u, U', L', rfl, h1, h3⟩, h4⟩
      exact ⟨u, U' ++ U2, L', rfl, h1, (ih S2 L' _ L).2 ⟨U', U2, L1, rfl, h3, h4⟩⟩
theorem runs_snoc {L0 : List (Option Int)} {S : List (Int × Int × Int)} {U : List Sd} {L L' : List (Option Int)} {x : Int × Int × Int} {u : Sd} (h : RunsTo L0 S U L) (h1 : OneS x L L' u) : RunsTo L0 (S ++ [x]) (U ++ [u]) L' :=
  (runs_append S [x] L0 _ L').2 ⟨U, [u], L, rfl, h, ⟨u, [], L', rfl, h1, ⟨rfl, rfl⟩⟩⟩
theorem runs_len : ∀ (S : List (Int × Int × Int)) (L0 : List (Option Int)) (U : List Sd) (L : List (Option Int)), RunsTo L0 S U L → U.length = S.length := by
  intro S
  induction S with
  | nil => rintro L0 U L ⟨rfl, -⟩; rfl
  | cons x S ih =>
    rintro L0 U L ⟨u, U', L', rfl, -, h⟩
    simp [ih L' U' L h]
/-- the entries that are there -/
def alive (L : List (Option Int)) : List Int := L.filterMap id
theorem alive_none {L : List (Option Int)} (h : alive L = []) : allNone L := fun j q hj => by
  have : q ∈ alive L := List.mem_filterMap.2 ⟨some q, List.mem_of_getElem? hj, rfl⟩
  rw [h] at this
  cases this
theorem alive_some {L : List (Option Int)} (h : 0 < (alive L).length) : ∃ (j : Nat) (q : Int), L[j]? = some (some q) := by
  cases ha : alive L with
  | nil => rw [ha] at h; cases h
  | cons q l =>
    have : q ∈ alive L := by rw [ha]; simp
    obtain ⟨o, ho, hq⟩ := List.mem_filterMap.1 this
    obtain ⟨j, hj⟩ := List.getElem?_of_mem ho
    exact ⟨j, q, by rw [hj]; exact congrArg some hq⟩
theorem alive_mem {L : List (Option Int)} {q : Int} (h : q ∈ alive L) : ∃ j : Nat, L[j]? = some (some q) := by
  obtain ⟨o, ho, hq⟩ := List.mem_filterMap.1 h
  obtain ⟨j, hj⟩ := List.getElem?_of_mem ho
  exact ⟨j, by rw [hj]; exact congrArg some hq⟩
theorem alive_set {L : List (Option Int)} : ∀ {j : Nat} {q : Int}, L[j]? = some (some q) → (alive L).Perm (q :: alive (L.set j none)) := by
  induction L with
  | nil => intro j q h; simp at h
  | cons o L ih =>
    intro j q h
    cases j with
    | zero =>
      simp at h
      subst h
      simp [alive]
    | succ j =>
      have := ih (j := j) (q := q) (by simpa using h)
      unfold alive at this ⊢
      cases o with
      | none => simpa using this
      | some r =>
        simp only [List.set_cons_succ, List.filterMap_cons, id]
        exact (List.Perm.cons r this).trans (List.Perm.swap q r _)
theorem runs_puts : ∀ (l : List Int) (L0 : List (Option Int)) (U : List Sd) (L : List (Option Int)), RunsTo L0 (l.map fun p => ((1 : Int), (0 : Int), p)) U L → L = L0 ++ l.map some ∧ ∀ u ∈ U, u.is = true := by
  intro l
  induction l with
  | nil => rintro L0 U L ⟨rfl, rfl⟩; simp
  | cons p l ih =>
    rintro L0 U L ⟨u, U', L', rfl, ⟨h1, -⟩, h2⟩
    obtain ⟨h3, h4⟩ := ih L' U' L h2
    rcases h1 with ⟨-, e, hi⟩ | ⟨e, -⟩ | ⟨e, -⟩ | ⟨e, -⟩
    · refine ⟨by rw [h3, e]; simp, fun v hv => ?_⟩
      rcases List.mem_cons.1 hv with rfl | hv
      · exact hi
      · exact h4 v hv
    · simp at e
    · simp at e
    · simp at e
def deqS : Int × Int × Int := (3, 0, 0)
theorem runs_deqs : ∀ (k : Nat) (L0 : List (Option Int)) (U : List Sd) (L : List (Option Int)), RunsTo L0 (List.replicate k deqS) U L →
    (∀ u ∈ U, u.is = true) ∧ (alive L0).Perm (U.map Sd.q ++ alive L) ∧ (U.map Sd.q).Pairwise (· ≤ ·) ∧ (∀ u ∈ U, ∀ r ∈ alive L, u.q ≤ r) ∧ L.length = L0.length := by
  intro k
  induction k with
  | zero => rintro L0 U L ⟨rfl, rfl⟩; simp
  | succ k ih =>
    intro L0 U L h
    rw [List.replicate_succ] at h
    obtain ⟨u, U', L', rfl, ⟨h1, -⟩, h2⟩ := h
    obtain ⟨a1, a2, a3, a4, a5⟩ := ih L' U' L h2
    rcases h1 with ⟨e, -⟩ | ⟨-, ⟨j, hj, hm, rfl⟩, hi⟩ | ⟨e, -⟩ | ⟨e, -⟩
    · exact absurd e (by decide)
    · have hp := alive_set hj
      have hle : ∀ r ∈ alive (L0.set j none), u.q ≤ r := fun r hr => by
        obtain ⟨i, hi⟩ := alive_mem hr
        by_cases hij : i = j
        · rw [hij, List.getElem?_set_self (List.getElem?_eq_some_iff.1 hj).1] at hi
          cases hi
        · rw [List.getElem?_set_ne (Ne.symm hij)] at hi
          exact hm i r hi
      have hle2 : ∀ r ∈ U'.map Sd.q ++ alive L, u.q ≤ r := fun r hr => hle r (a2.mem_iff.2 hr)
      refine ⟨fun v hv => ?_, ?_, ?_, fun v hv r hr => ?_, by rw [a5, List.length_set]⟩
      · rcases List.mem_cons.1 hv with rfl | hv
        · exact hi
        · exact a1 v hv
      · exact hp.trans (List.Perm.cons u.q a2)
      · rw [List.map_cons, List.pairwise_cons]
        exact ⟨fun r hr => hle2 r (List.mem_append_left _ hr), a3⟩
      · rcases List.mem_cons.1 hv with rfl | hv
        · exact hle2 r (List.mem_append_right _ hr)
        · exact a4 v hv r hr
    · exact absurd e (by decide)
    · exact absurd e (by decide)
theorem sorted_eq : ∀ (a b : List Int), a.Pairwise (· ≤ ·) → b.Pairwise (· ≤ ·) → a.Perm b → a = b := by
  intro a
  induction a with
  | nil => intro b _ _ h; exact (List.Perm.nil_eq h)
  | cons x a ih =>
    intro b ha hb h
    cases b with
    | nil => exact absurd h.length_eq (by simp)
    | cons y b =>
      rw [List.pairwise_cons] at ha hb
      have hx : y ≤ x := by
        rcases List.mem_cons.1 (h.mem_iff.1 (List.mem_cons_self (a := x) (l := a))) with e | e
        · omega
        · exact hb.1 x e
      have hy : x ≤ y := by
        rcases List.mem_cons.1 (h.mem_iff.2 (List.mem_cons_self (a := y) (l := b))) with e | e
        · omega
        · exact ha.1 y e
      have e : x = y := by omega
      subst e
      rw [ih b ha.2 hb.2 (List.Perm.cons_inv h)]
/-- each step of a script may be done, however the earlier ones came out -/
def CanS (S : List (Int × Int × Int)) : Prop := ∀ (i : Nat) (x : Int × Int × Int) (U : List Sd) (L : List (Option Int)), S[i]? = some x → RunsTo [] (S.take i) U L → PreS x L ∧ L.length ≤ 500
/-- a script that leaves the priorities l in a heap -/
def GoodS (S : List (Int × Int × Int)) (l : List Int) : Prop := CanS S ∧ ∀ U L, RunsTo [] S U L → (∀ u ∈ U, u.is = true) ∧ (alive L).Perm l ∧ L.length ≤ 500
def outS (S : List (Int × Int × Int)) (l : List Int) : List (Int × Int × Int) := S ++ (List.replicate l.length deqS ++ [(2, 0, 0)])
theorem good_can {S : List (Int × Int × Int)} {l : List Int} (h : GoodS S l) : CanS (outS S l) := by
  intro i x U L hx hr
  unfold outS at hx hr
  rcases Nat.lt_or_ge i S.length with hi | hi
  · rw [List.getElem?_append_left hi] at hx
    rw [List.take_append_of_le_length (Nat.le_of_lt hi)] at hr
    exact h.1 i x U L hx hr
  · obtain ⟨k, rfl⟩ : ∃ k, i = S.length + k := ⟨i - S.length, by omega⟩
    rw [List.getElem?_append_right (by omega), Nat.add_sub_cancel_left] at hx
    rw [List.take_length_add_append, runs_append] at hr
    obtain ⟨U1, U2, L1, rfl, h1, h2⟩ := hr
    obtain ⟨g1, g2, g3⟩ := h.2 U1 L1 h1
    rcases Nat.lt_or_ge k l.length with hk | hk
    · rw [List.getElem?_append_left (by simpa using hk), List.getElem?_replicate, if_pos hk] at hx
      injection hx with hx
      subst hx
      rw [List.take_append_of_le_length (by simpa using Nat.le_of_lt hk), List.take_replicate, Nat.min_eq_left (Nat.le_of_lt hk)] at h2
      obtain ⟨-, b2, -, -, b5⟩ := runs_deqs k L1 U2 L h2
      refine ⟨.inr (.inl ⟨rfl, alive_some ?_⟩), by omega⟩
      have e1 := b2.length_eq
      have e2 := g2.length_eq
      have e3 := runs_len _ _ _ _ h2
      rw [List.length_append, List.length_map] at e1
      rw [List.length_replicate] at e3
      omega
    · rw [List.getElem?_append_right (by simpa using hk), List.length_replicate] at hx
      have hkl : k = l.length := by
        cases hz : k - l.length with
        | zero => omega
        | succ z => rw [hz] at hx; simp at hx
      subst hkl
      rw [Nat.sub_self] at hx
      injection hx with hx
      subst hx
      rw [List.take_append_of_le_length (by simp), List.take_of_length_le (by simp)] at h2
      obtain ⟨-, b2, -, -, b5⟩ := runs_deqs _ L1 U2 L h2
      refine ⟨.inr (.inr (.inr ⟨rfl, alive_none ?_⟩)), by omega⟩
      have e1 := b2.length_eq
      have e2 := g2.length_eq
      have e3 := runs_len _ _ _ _ h2
      rw [List.length_append, List.length_map] at e1
      rw [List.length_replicate] at e3
      exact List.eq_nil_of_length_eq_zero (by omega)
/-- what comes out -/
theorem good_out {S : List (Int × Int × Int)} {l : List Int} (h : GoodS S l) {U : List Sd} {L : List (Option Int)} (hr : RunsTo [] (outS S l) U L) :
    ∃ U1 U2 v, U = U1 ++ (U2 ++ [v]) ∧ U1.length = S.length ∧ U2.length = l.length ∧ (∀ u ∈ U1 ++ U2, u.is = true) ∧ v.is = false ∧ v.em = true ∧ U2.map Sd.q = l.mergeSort fun a b => decide (a ≤ b) := by
  unfold outS at hr
  rw [runs_append] at hr
  obtain ⟨U1, U2', L1, rfl, h1, h2⟩ := hr
  rw [runs_append] at h2
  obtain ⟨U2, U3, L2, rfl, h3, v, U4, L4, rfl, ⟨h5, h6⟩, rfl, rfl⟩ := h2
  obtain ⟨g1, g2, g3⟩ := h.2 U1 L1 h1
  obtain ⟨b1, b2, b3, -, b5⟩ := runs_deqs _ L1 U2 L2 h3
  have e1 := b2.length_eq
  have e2 := g2.length_eq
  have e3 := runs_len _ _ _ _ h3
  rw [List.length_append, List.length_map] at e1
  rw [List.length_replicate] at e3
  have hn : alive L2 = [] := List.eq_nil_of_length_eq_zero (by omega)
  have hv : v.is = false ∧ L = L2 := by
    rcases h5 with ⟨e, -⟩ | ⟨e, -⟩ | ⟨e, -⟩ | ⟨-, h7, h8⟩
    · exact absurd e (by decide)
    · exact absurd e (by decide)
    · exact absurd e (by decide)
    · exact ⟨h8, h7⟩
  refine ⟨U1, U2, v, rfl, runs_len _ _ _ _ h1, e3, fun u hu => ?_, hv.1, h6 (by rw [hv.2]; exact alive_none hn), ?_⟩
  · rcases List.mem_append.1 hu with hu | hu
    · exact g1 u hu
    · exact b1 u hu
  · rw [hn, List.append_nil] at b2
    refine sorted_eq _ _ b3 ?_ (b2.symm.trans (g2.trans (List.mergeSort_perm l _).symm))
    have := List.pairwise_mergeSort (le := fun a b : Int => decide (a ≤ b)) (fun a b c => by simp; omega) (fun a b => by simp; omega) l
    exact this.imp (fun h => by simpa using h)
theorem good_puts {l : List Int} (hl : l.length ≤ 60) (hs : ∀ p ∈ l, Sm p) : GoodS (l.map fun p => ((1 : Int), (0 : Int), p)) l := by
  refine ⟨fun i x U L hx hr => ?_, fun U L hr => ?_⟩
  · rw [← List.map_take] at hr
    obtain ⟨rfl, -⟩ := runs_puts _ _ _ _ hr
    rw [List.getElem?_map] at hx
    cases hi : l[i]? with
    | none => rw [hi] at hx; cases hx
    | some p =>
      rw [hi] at hx
      injection hx with hx
      subst hx
      exact ⟨.inl ⟨rfl, hs p (List.mem_of_getElem? hi)⟩, by simp; omega⟩
  · obtain ⟨rfl, h⟩ := runs_puts _ _ _ _ hr
    refine ⟨h, ?_, by simp; omega⟩
    have : alive ([] ++ l.map some) = l := by simp [alive]
    rw [this]
end Go.Proofs.Ytmhackiiiehlmaa
