/- Scripts on heaps: some entries less than all others come and go, then all priorities are decreased, the last one first. No program in sight. -/
import Derived.Test.YtmhackiiiehlmaaFhPlain
namespace Go.Proofs.Ytmhackiiiehlmaa
set_option linter.unusedVariables false
open Go.RowKit

def Tri (Q : List (Option Int) → Prop) (S : List (Int × Int × Int)) (Q2 : List (Option Int) → Prop) : Prop :=
  ∀ L0, Q L0 → (∀ (i : Nat) (x : Int × Int × Int) (U : List Sd) (L : List (Option Int)), S[i]? = some x → RunsTo L0 (S.take i) U L → PreS x L ∧ L.length ≤ 500) ∧ (∀ U L, RunsTo L0 S U L → (∀ u ∈ U, u.is = true) ∧ Q2 L)
theorem tri_nil (Q : List (Option Int) → Prop) : Tri Q [] Q := fun L0 h => ⟨fun i x U L hx => by simp at hx, fun U L hr => by
  obtain ⟨rfl, rfl⟩ := hr
  exact ⟨by simp, h⟩⟩
theorem tri_append {Q Q2 Q3 : List (Option Int) → Prop} {S1 S2 : List (Int × Int × Int)} (h1 : Tri Q S1 Q2) (h2 : Tri Q2 S2 Q3) : Tri Q (S1 ++ S2) Q3 := by
  intro L0 hq
  refine ⟨fun i x U L hx hr => ?_, fun U L hr => ?_⟩
  · rcases Nat.lt_or_ge i S1.length with hi | hi
    · rw [List.getElem?_append_left hi] at hx
      rw [List.take_append_of_le_length (Nat.le_of_lt hi)] at hr
      exact (h1 L0 hq).1 i x U L hx hr
    · obtain ⟨k, rfl⟩ : ∃ k, i = S1.length + k := ⟨i - S1.length, by omega⟩
      rw [List.getElem?_append_right (by omega), Nat.add_sub_cancel_left] at hx
      rw [List.take_length_add_append, runs_append] at hr
      obtain ⟨U1, U2, L1, rfl, r1, r2⟩ := hr
      exact (h2 L1 ((h1 L0 hq).2 U1 L1 r1).2).1 k x U2 L hx r2
  · rw [runs_append] at hr
    obtain ⟨U1, U2, L1, rfl, r1, r2⟩ := hr
    obtain ⟨a1, a2⟩ := (h1 L0 hq).2 U1 L1 r1
    obtain ⟨b1, b2⟩ := (h2 L1 a2).2 U2 L r2
    refine ⟨fun u hu => ?_, b2⟩
    rcases List.mem_append.1 hu with hu | hu
    · exact a1 u hu
    · exact b1 u hu
theorem tri_one {Q Q2 : List (Option Int) → Prop} {x : Int × Int × Int} (h : ∀ L, Q L → PreS x L ∧ L.length ≤ 500 ∧ ∀ L' is q, One1 x L L' is q → is = true ∧ Q2 L') : Tri Q [x] Q2 := by
  intro L0 hq
  obtain ⟨h1, h2, h3⟩ := h L0 hq
  refine ⟨fun i y U L hx hr => ?_, fun U L hr => ?_⟩
  · cases i with
    | zero =>
      simp at hx
      subst hx
      obtain ⟨rfl, rfl⟩ := hr
      exact ⟨h1, h2⟩
    | succ i => simp at hx
  · obtain ⟨u, U', L', rfl, ⟨r1, -⟩, rfl, rfl⟩ := hr
    obtain ⟨a, b⟩ := h3 _ _ _ r1
    exact ⟨fun v hv => by rw [List.mem_singleton.1 hv]; exact a, b⟩
theorem tri_puts : ∀ (l M : List Int), (∀ p ∈ l, Sm p) → M.length + l.length ≤ 500 → Tri (fun L => L = M.map some) (l.map fun p => ((1 : Int), (0 : Int), p)) (fun L => L = (M ++ l).map some) := by
  intro l
  induction l with
  | nil => intro M _ _; simpa using tri_nil _
  | cons p l ih =>
    intro M hs hl
    simp only [List.length_cons] at hl
    have h2 := ih (M ++ [p]) (fun q hq => hs q (List.mem_cons_of_mem _ hq)) (by simp; omega)
    have e : M ++ p :: l = M ++ [p] ++ l := by simp
    rw [e]
    refine tri_append (S1 := [((1 : Int), (0 : Int), p)]) (tri_one (Q2 := fun L => L = (M ++ [p]).map some) fun L hL => ?_) h2
    subst hL
    refine ⟨.inl ⟨rfl, hs p (by simp)⟩, by simp; omega, fun L' is q h => ?_⟩
    rcases h with ⟨-, e, hi⟩ | ⟨e, -⟩ | ⟨e, -⟩ | ⟨e, -⟩
    · exact ⟨hi, by rw [e]; simp⟩
    · simp at e
    · simp at e
    · simp at e
/-- behind some of the first ones that are dequeued -/
def Past (c : Int) (g : Nat) (l : List Int) (k : Nat) (L : List (Option Int)) : Prop :=
  ∃ G : List (Option Int), L = G ++ l.map some ∧ G.length = g ∧ (∀ o ∈ G, o = none ∨ o = some c) ∧ (alive G).length = k
theorem tri_past {c : Int} {g : Nat} {l : List Int} (hc : ∀ p ∈ l, c < p) (hl : g + l.length ≤ 500) (k : Nat) : Tri (Past c g l (k + 1)) [deqS] (Past c g l k) := by
  refine tri_one fun L hL => ?_
  obtain ⟨G, rfl, hG, ho, hk⟩ := hL
  obtain ⟨j0, q0, hj0⟩ := alive_some (L := G) (by omega)
  have hj0' : (G ++ l.map some)[j0]? = some (some q0) := by
    rw [List.getElem?_append_left (List.getElem?_eq_some_iff.1 hj0).1]; exact hj0
  have hq0 : q0 = c := by
    rcases ho _ (List.mem_of_getElem? hj0) with e | e
    · cases e
    · injection e
  refine ⟨.inr (.inl ⟨rfl, j0, q0, hj0'⟩), by simp; omega, fun L' is q h => ?_⟩
  rcases h with ⟨e, -⟩ | ⟨-, ⟨j, hj, hm, rfl⟩, hi⟩ | ⟨e, -⟩ | ⟨e, -⟩
  · exact absurd e (by decide)
  · have hqc : q ≤ c := by rw [← hq0]; exact hm j0 q0 hj0'
    have hjG : j < G.length := by
      rcases Nat.lt_or_ge j G.length with h | h
      · exact h
      · rw [List.getElem?_append_right h, List.getElem?_map] at hj
        cases hp : l[j - G.length]? with
        | none => rw [hp] at hj; cases hj
        | some p =>
          rw [hp] at hj
          injection hj with hj
          injection hj with hj
          have := hc p (List.mem_of_getElem? hp)
          omega
    rw [List.getElem?_append_left hjG] at hj
    refine ⟨hi, G.set j none, ?_, by rw [List.length_set]; exact hG, fun o hoo => ?_, ?_⟩
    · rw [List.set_append_left _ _ hjG]
    · rcases List.mem_or_eq_of_mem_set hoo with h | h
      · exact ho o h
      · exact .inl h
    · have := (alive_set hj).length_eq
      rw [List.length_cons] at this
      omega
  · exact absurd e (by decide)
  · exact absurd e (by decide)
theorem tri_pasts {c : Int} {g : Nat} {l : List Int} (hc : ∀ p ∈ l, c < p) (hl : g + l.length ≤ 500) : ∀ k : Nat, Tri (Past c g l k) (List.replicate k deqS) (Past c g l 0) := by
  intro k
  induction k with
  | zero => exact tri_nil _
  | succ k ih =>
    rw [List.replicate_succ]
    exact tri_append (S1 := [deqS]) (tri_past hc hl k) ih
theorem past_start (c : Int) (g : Nat) (l : List Int) : Past c g l g ((List.replicate g c ++ l).map some) :=
  ⟨(List.replicate g c).map some, by rw [List.map_append], by simp, fun o ho => by
    obtain ⟨x, hx, rfl⟩ := List.mem_map.1 ho
    exact .inr (by rw [List.eq_of_mem_replicate hx]), by simp [alive]⟩
theorem past_end {c : Int} {g : Nat} {l : List Int} {L : List (Option Int)} (h : Past c g l 0 L) : L = List.replicate g none ++ l.map some := by
  obtain ⟨G, rfl, hG, ho, hk⟩ := h
  have : G = List.replicate g none := by
    rw [List.eq_replicate_iff]
    refine ⟨hG, fun o hoo => ?_⟩
    rcases ho o hoo with e | e
    · exact e
    · exfalso
      have : c ∈ alive G := List.mem_filterMap.2 ⟨some c, e ▸ hoo, rfl⟩
      rw [List.eq_nil_of_length_eq_zero hk] at this
      cases this
  rw [this]
/-- the last k priorities are decreased -/
def Low (g : Nat) (l ps : List Int) (k : Nat) (L : List (Option Int)) : Prop := L = List.replicate g none ++ (l.take (l.length - k) ++ ps.drop (l.length - k)).map some
def decL (g : Nat) (ps : List Int) : Nat → List (Int × Int × Int)
  | 0 => []
  | k + 1 => decL g ps k ++ [((4 : Int), (((g + (ps.length - (k + 1)) : Nat)) : Int), ps.getD (ps.length - (k + 1)) 0)]
theorem tri_low {g : Nat} {l ps : List Int} (hps : ps.length = l.length) (hlt : ∀ i, i < l.length → ps.getD i 0 < l.getD i 0 ∧ Sm (ps.getD i 0)) (hl : g + l.length ≤ 500) (k : Nat) (hk : k < l.length) :
    Tri (Low g l ps k) [((4 : Int), (((g + (ps.length - (k + 1)) : Nat)) : Int), ps.getD (ps.length - (k + 1)) 0)] (Low g l ps (k + 1)) := by
  refine tri_one fun L hL => ?_
  unfold Low at hL
  subst hL
  obtain ⟨i, hi⟩ : ∃ i, l.length - (k + 1) = i := ⟨_, rfl⟩
  have hi2 : l.length - k = i + 1 := by omega
  have hil : i < l.length := by omega
  rw [hps, hi, hi2]
  obtain ⟨h1, h2⟩ := hlt i hil
  have hat : (List.replicate g (none : Option Int) ++ (l.take (i + 1) ++ ps.drop (i + 1)).map some)[g + i]? = some (some (l.getD i 0)) := by
    rw [List.getElem?_append_right (by simp), List.length_replicate, Nat.add_sub_cancel_left, List.getElem?_map, List.getElem?_append_left (by rw [List.length_take]; omega), List.getElem?_take, if_pos (by omega), List.getD_eq_getElem?_getD, List.getElem?_eq_getElem hil]
    rfl
  refine ⟨.inr (.inr (.inl ⟨rfl, g + i, l.getD i 0, rfl, hat, h1, h2⟩)), by simp; omega, fun L' is q h => ?_⟩
  rcases h with ⟨e, -⟩ | ⟨e, -⟩ | ⟨-, ⟨j, hj, rfl⟩, hii⟩ | ⟨e, -⟩
  · simp at e
  · simp at e
  · have hj : j = g + i := by
      have : ((g + i : Nat) : Int) = (j : Int) := hj
      omega
    subst hj
    refine ⟨hii, ?_⟩
    unfold Low
    rw [hi, List.set_append_right _ _ (by simp), List.length_replicate, Nat.add_sub_cancel_left, ← List.map_set]
    congr 2
    apply List.ext_getElem?
    intro z
    by_cases hz : z = i
    · subst hz
      rw [List.getElem?_set_self (by rw [List.length_append, List.length_take, List.length_drop]; omega), List.getElem?_append_right (by rw [List.length_take]; omega), List.length_take, Nat.min_eq_left (by omega), Nat.sub_self, List.getElem?_drop, Nat.add_zero, List.getD_eq_getElem?_getD, List.getElem?_eq_getElem (by omega)]
      rfl
    · rw [List.getElem?_set_ne (Ne.symm hz)]
      rcases Nat.lt_or_ge z i with h | h
      · rw [List.getElem?_append_left (by rw [List.length_take]; omega), List.getElem?_append_left (by rw [List.length_take]; omega), List.getElem?_take, List.getElem?_take, if_pos (by omega), if_pos h]
      · rw [List.getElem?_append_right (by rw [List.length_take]; omega), List.getElem?_append_right (by rw [List.length_take]; omega), List.length_take, List.length_take, List.getElem?_drop, List.getElem?_drop]
        congr 1
        omega
  · simp at e
theorem tri_lows {g : Nat} {l ps : List Int} (hps : ps.length = l.length) (hlt : ∀ i, i < l.length → ps.getD i 0 < l.getD i 0 ∧ Sm (ps.getD i 0)) (hl : g + l.length ≤ 500) : ∀ k : Nat, k ≤ l.length → Tri (Low g l ps 0) (decL g ps k) (Low g l ps k) := by
  intro k
  induction k with
  | zero => intro _; exact tri_nil _
  | succ k ih => exact fun hk => tri_append (ih (by omega)) (tri_low hps hlt hl k (by omega))
theorem tri_mono {Q Q' Q2 Q2' : List (Option Int) → Prop} {S : List (Int × Int × Int)} (h : Tri Q S Q2) (h1 : ∀ L, Q' L → Q L) (h2 : ∀ L, Q2 L → Q2' L) : Tri Q' S Q2' := fun L0 hq =>
  ⟨(h L0 (h1 L0 hq)).1, fun U L hr => ⟨((h L0 (h1 L0 hq)).2 U L hr).1, h2 L ((h L0 (h1 L0 hq)).2 U L hr).2⟩⟩
def pastS (c : Int) (g : Nat) (l : List Int) : List (Int × Int × Int) := (List.replicate g c ++ l).map (fun p => ((1 : Int), (0 : Int), p)) ++ List.replicate g deqS
/-- the script of FnFHLower -/
theorem good_lower {c : Int} {g : Nat} {l ps : List Int} (hc : Sm c) (hcl : ∀ p ∈ l, c < p ∧ Sm p) (hps : ps.length = l.length) (hlt : ∀ i, i < l.length → ps.getD i 0 < l.getD i 0 ∧ Sm (ps.getD i 0)) (hl : g + l.length ≤ 500) :
    GoodS (pastS c g l ++ decL g ps l.length) ps.reverse := by
  have t1 := tri_puts (List.replicate g c ++ l) [] (fun p hp => by
    rcases List.mem_append.1 hp with hp | hp
    · rw [List.eq_of_mem_replicate hp]; exact hc
    · exact (hcl p hp).2) (by simp; omega)
  have t2 := tri_pasts (c := c) (g := g) (l := l) (fun p hp => (hcl p hp).1) hl g
  have t3 := tri_lows hps hlt hl l.length (Nat.le_refl _)
  have t : Tri (fun L => L = []) (pastS c g l ++ decL g ps l.length) (Low g l ps l.length) := by
    refine tri_append (tri_append (tri_mono t1 (fun L h => by rw [h]; rfl) (fun L h => h)) (tri_mono t2 (fun L h => by rw [h]; exact past_start c g l) (fun L h => h))) (tri_mono t3 (fun L h => ?_) (fun L h => h))
    rw [past_end h]
    unfold Low
    rw [Nat.sub_zero, List.take_length, List.drop_eq_nil_of_le (by omega), List.append_nil]
  refine ⟨fun i x U L hx hr => (t [] rfl).1 i x U L hx hr, fun U L hr => ?_⟩
  obtain ⟨h1, h2⟩ := (t [] rfl).2 U L hr
  refine ⟨h1, ?_, ?_⟩
  · unfold Low at h2
    rw [Nat.sub_self, List.take_zero, List.drop_zero, List.nil_append] at h2
    have : alive L = ps := by
      rw [h2]
      unfold alive
      rw [List.filterMap_append]
      have e1 : (List.replicate g (none : Option Int)).filterMap id = [] := by
        rw [List.filterMap_eq_nil_iff]
        intro o ho
        rw [List.eq_of_mem_replicate ho]; rfl
      rw [e1]
      simp
    rw [this]
    exact (List.reverse_perm ps).symm
  · unfold Low at h2
    rw [h2]
    simp
    omega
end Go.Proofs.Ytmhackiiiehlmaa
