/- Open addressing with linear probing: the plain law. No program in sight. -/
import Derived.Lib.Hide
namespace Go.Proofs.Ytidekgmpbcnfmaa
set_option linter.unusedVariables false
namespace Fi
/-- block, key, value -/
abbrev Ent := Nat × Int × Int
abbrev Tb := List (Option Ent)
def wr (m a d : Nat) : Nat := if a + d < m then a + d else a + d - m
theorem wr_lt {m a d : Nat} (ha : a < m) (hd : d < m) : wr m a d < m := by unfold wr; split <;> omega
theorem wr_zero {m a : Nat} (ha : a < m) : wr m a 0 = a := by unfold wr; split <;> omega
theorem wr_surj {m a j : Nat} (ha : a < m) (hj : j < m) : ∃ d, d < m ∧ wr m a d = j := by
  by_cases h : a ≤ j
  · exact ⟨j - a, by omega, by unfold wr; split <;> omega⟩
  · exact ⟨j + m - a, by omega, by unfold wr; split <;> omega⟩
theorem wr_inj {m a d d' : Nat} (ha : a < m) (hd : d < m) (hd' : d' < m) (h : wr m a d = wr m a d') : d = d' := by
  unfold wr at h; split at h <;> split at h <;> omega
theorem wr_add {m a d t : Nat} (ha : a < m) (h : d + t < m) : wr m (wr m a d) t = wr m a (d + t) := by
  unfold wr; split <;> split <;> split <;> omega

structure Ok (m : Nat) (h : Int → Nat) (T : Tb) : Prop where
  len : T.length = m
  hm : ∀ k, h k < m
  key : ∀ (i j b : Nat) (k v : Int) (b' : Nat) (v' : Int), T[i]? = some (some (b, k, v)) → T[j]? = some (some (b', k, v')) → i = j
  reach : ∀ (i b : Nat) (k v : Int), T[i]? = some (some (b, k, v)) → ∃ d, d < m ∧ wr m (h k) d = i ∧ ∀ d', d' < d → ∃ e, T[wr m (h k) d']? = some (some e)
def Found (m : Nat) (h : Int → Nat) (T : Tb) (k : Int) (i : Nat) : Prop :=
  ∃ d, d < m ∧ wr m (h k) d = i ∧ (∀ d', d' < d → ∃ b k' v', T[wr m (h k) d']? = some (some (b, k', v')) ∧ k' ≠ k) ∧ (T[i]? = some none ∨ ∃ b v, T[i]? = some (some (b, k, v)))
def Free (T : Tb) : Prop := ∃ i : Nat, T[i]? = some none
def Has (T : Tb) (e : Ent) : Prop := ∃ i : Nat, T[i]? = some (some e)
def occ (T : Tb) : Nat := (T.filterMap id).length

theorem Found.lt {m : Nat} {h : Int → Nat} {T : Tb} {k : Int} {i : Nat} (hm : h k < m) (f : Found m h T k i) : i < m := by
  obtain ⟨d, h1, h2, _⟩ := f
  rw [← h2]; exact wr_lt hm h1
/-- where nothing was found the key is not there -/
theorem found_none {m : Nat} {h : Int → Nat} {T : Tb} {k : Int} {i : Nat} (ok : Ok m h T) (f : Found m h T k i) (hn : T[i]? = some none) : ∀ b v, ¬ Has T (b, k, v) := by
  rintro b v ⟨j, hj⟩
  obtain ⟨d, h1, h2, h3, _⟩ := f
  obtain ⟨dj, g1, g2, g3⟩ := ok.reach j b k v hj
  rcases Nat.lt_trichotomy d dj with hlt | heq | hgt
  · obtain ⟨e, he⟩ := g3 d hlt
    rw [h2, hn] at he
    cases he
  · rw [heq, g2] at h2
    subst h2
    rw [hn] at hj
    cases hj
  · obtain ⟨b', k', v', he, hne⟩ := h3 dj hgt
    rw [g2, hj] at he
    injection he with he
    injection he with he
    simp only [Prod.mk.injEq] at he
    exact hne he.2.1.symm
theorem set_at {T : Tb} {i : Nat} {x : Option Ent} (hi : i < T.length) (j : Nat) : (T.set i x)[j]? = if i = j then some x else T[j]? := by
  rw [List.getElem?_set]
  by_cases h : i = j
  · subst h; simp [hi]
  · simp [h]
theorem has_set {T : Tb} {i : Nat} {e : Ent} (hi : i < T.length) (hn : T[i]? = some none) (e' : Ent) : Has (T.set i (some e)) e' ↔ Has T e' ∨ e' = e := by
  constructor
  · rintro ⟨j, hj⟩
    rw [set_at hi] at hj
    by_cases h : i = j
    · rw [if_pos h] at hj
      exact .inr (by simpa using hj.symm)
    · rw [if_neg h] at hj
      exact .inl ⟨j, hj⟩
  · rintro (⟨j, hj⟩ | rfl)
    · refine ⟨j, ?_⟩
      rw [set_at hi, if_neg (fun h => by subst h; rw [hn] at hj; cases hj)]
      exact hj
    · exact ⟨i, by rw [set_at hi, if_pos rfl]⟩
theorem set_new {m : Nat} {h : Int → Nat} {T : Tb} {b : Nat} {k v : Int} {i : Nat} (ok : Ok m h T) (f : Found m h T k i) (hn : T[i]? = some none) : Ok m h (T.set i (some (b, k, v))) := by
  have hi : i < T.length := by rw [ok.len]; exact f.lt (ok.hm k)
  have hno := found_none ok f hn
  refine ⟨by rw [List.length_set]; exact ok.len, ok.hm, fun i1 j1 b1 k1 v1 b2 v2 h1 h2 => ?_, fun i1 b1 k1 v1 h1 => ?_⟩
  · rw [set_at hi] at h1 h2
    by_cases hi1 : i = i1 <;> by_cases hj1 : i = j1
    · omega
    · rw [if_pos hi1] at h1
      rw [if_neg hj1] at h2
      simp only [Option.some.injEq, Prod.mk.injEq] at h1
      obtain ⟨_, rfl, _⟩ := h1
      exact absurd ⟨j1, h2⟩ (hno _ _)
    · rw [if_neg hi1] at h1
      rw [if_pos hj1] at h2
      simp only [Option.some.injEq, Prod.mk.injEq] at h2
      obtain ⟨_, rfl, _⟩ := h2
      exact absurd ⟨i1, h1⟩ (hno _ _)
    · rw [if_neg hi1] at h1
      rw [if_neg hj1] at h2
      exact ok.key _ _ _ _ _ _ _ h1 h2
  · have more : ∀ (a : Nat), (∃ e, T[a]? = some (some e)) → ∃ e, (T.set i (some (b, k, v)))[a]? = some (some e) := by
      rintro a ⟨e, he⟩
      rw [set_at hi]
      split
      · exact ⟨_, rfl⟩
      · exact ⟨e, he⟩
    rw [set_at hi] at h1
    by_cases hi1 : i = i1
    · rw [if_pos hi1] at h1
      simp only [Option.some.injEq, Prod.mk.injEq] at h1
      obtain ⟨_, rfl, _⟩ := h1
      obtain ⟨d, f1, f2, f3, _⟩ := f
      exact ⟨d, f1, f2.trans hi1, fun d' hd => more _ (by obtain ⟨x, y, z, hx, _⟩ := f3 d' hd; exact ⟨_, hx⟩)⟩
    · rw [if_neg hi1] at h1
      obtain ⟨d, f1, f2, f3⟩ := ok.reach _ _ _ _ h1
      exact ⟨d, f1, f2, fun d' hd => more _ (f3 d' hd)⟩
theorem set_upd {m : Nat} {h : Int → Nat} {T : Tb} {b : Nat} {k v v' : Int} {i : Nat} (ok : Ok m h T) (hs : T[i]? = some (some (b, k, v))) : Ok m h (T.set i (some (b, k, v'))) := by
  have hi : i < T.length := (List.getElem?_eq_some_iff.1 hs).1
  have back : ∀ (j b1 : Nat) (k1 v1 : Int), (T.set i (some (b, k, v')))[j]? = some (some (b1, k1, v1)) → ∃ v2, T[j]? = some (some (b1, k1, v2)) := by
    intro j b1 k1 v1 hj
    rw [set_at hi] at hj
    by_cases h : i = j
    · rw [if_pos h] at hj
      simp only [Option.some.injEq, Prod.mk.injEq] at hj
      obtain ⟨rfl, rfl, _⟩ := hj
      exact ⟨v, by rw [← h]; exact hs⟩
    · rw [if_neg h] at hj; exact ⟨v1, hj⟩
  have more : ∀ (a : Nat), (∃ e, T[a]? = some (some e)) → ∃ e, (T.set i (some (b, k, v')))[a]? = some (some e) := by
    rintro a ⟨e, he⟩
    rw [set_at hi]
    split
    · exact ⟨_, rfl⟩
    · exact ⟨e, he⟩
  refine ⟨by rw [List.length_set]; exact ok.len, ok.hm, fun i1 j1 b1 k1 v1 b2 v2 h1 h2 => ?_, fun i1 b1 k1 v1 h1 => ?_⟩
  · obtain ⟨x, hx⟩ := back _ _ _ _ h1
    obtain ⟨y, hy⟩ := back _ _ _ _ h2
    exact ok.key _ _ _ _ _ _ _ hx hy
  · obtain ⟨x, hx⟩ := back _ _ _ _ h1
    obtain ⟨d, f1, f2, f3⟩ := ok.reach _ _ _ _ hx
    exact ⟨d, f1, f2, fun d' hd => more _ (f3 d' hd)⟩

theorem occ_cons (o : Option Ent) (T : Tb) : occ (o :: T) = occ T + (if o.isSome then 1 else 0) := by
  cases o <;> simp [occ]
theorem occ_new {T : Tb} {i : Nat} {e : Ent} (hn : T[i]? = some none) : occ (T.set i (some e)) = occ T + 1 := by
  induction T generalizing i with
  | nil => simp at hn
  | cons o r ih =>
    cases i with
    | zero =>
      simp at hn
      subst hn
      rw [List.set_cons_zero, occ_cons, occ_cons]; rfl
    | succ i =>
      simp at hn
      rw [List.set_cons_succ, occ_cons, occ_cons, ih hn]; omega
theorem occ_upd {T : Tb} {i : Nat} {e e' : Ent} (hn : T[i]? = some (some e')) : occ (T.set i (some e)) = occ T := by
  induction T generalizing i with
  | nil => simp at hn
  | cons o r ih =>
    cases i with
    | zero =>
      simp at hn
      subst hn
      rw [List.set_cons_zero, occ_cons, occ_cons]; rfl
    | succ i =>
      simp at hn
      rw [List.set_cons_succ, occ_cons, occ_cons, ih hn]
theorem occ_del {T : Tb} {i : Nat} {e : Ent} (hn : T[i]? = some (some e)) : occ (T.set i none) + 1 = occ T := by
  induction T generalizing i with
  | nil => simp at hn
  | cons o r ih =>
    cases i with
    | zero =>
      simp at hn
      subst hn
      rw [List.set_cons_zero, occ_cons, occ_cons]; simp
    | succ i =>
      simp at hn
      rw [List.set_cons_succ, occ_cons, occ_cons, ← ih hn]; omega
theorem free_of {T : Tb} (h : occ T < T.length) : Free T := by
  induction T with
  | nil => simp at h
  | cons o r ih =>
    cases o with
    | none => exact ⟨0, rfl⟩
    | some e =>
      rw [occ_cons] at h
      simp at h
      obtain ⟨i, hi⟩ := ih (by omega)
      exact ⟨i + 1, by simpa using hi⟩
theorem occ_none (m : Nat) : occ (List.replicate m none) = 0 := by simp [occ, List.filterMap_replicate_of_none]

/-- the state of a deletion: T was the table, its entry at i goes; the places from i on up to the first free one, which is L further, are put anew, l of them so far but one -/
structure Del (m : Nat) (h : Int → Nat) (T : Tb) (i : Nat) (b : Nat) (k v : Int) (L l : Nat) (S : Tb) : Prop where
  ok : Ok m h T
  hi : i < m
  at_ : T[i]? = some (some (b, k, v))
  l1 : 1 ≤ l
  lL : l ≤ L
  Lm : L < m
  free : T[wr m i L]? = some none
  mid : ∀ l', 1 ≤ l' → l' < L → ∃ e, T[wr m i l']? = some (some e)
  len : S.length = m
  key : ∀ (i j b : Nat) (k v : Int) (b' : Nat) (v' : Int), S[i]? = some (some (b, k, v)) → S[j]? = some (some (b', k, v')) → i = j
  end_ : S[wr m i L]? = some none
  same : ∀ l', l ≤ l' → l' < L → S[wr m i l']? = T[wr m i l']?
  reach : ∀ (s b' : Nat) (k' v' : Int), S[s]? = some (some (b', k', v')) → (∃ l', l ≤ l' ∧ l' < L ∧ s = wr m i l') ∨ ∃ d, d < m ∧ wr m (h k') d = s ∧ ∀ d', d' < d → ∃ e, S[wr m (h k') d']? = some (some e)
  has : ∀ e : Ent, Has S e ↔ Has T e ∧ e.2.1 ≠ k
  occ_ : occ S + 1 = occ T

theorem del_start {m : Nat} {h : Int → Nat} {T : Tb} {i b : Nat} {k v : Int} (ok : Ok m h T) (hT : T[i]? = some (some (b, k, v))) (hf : Free T) : ∃ L, Del m h T i b k v L 1 (T.set i none) := by
  have hi : i < T.length := (List.getElem?_eq_some_iff.1 hT).1
  have him : i < m := by rw [← ok.len]; exact hi
  obtain ⟨f, hf⟩ := hf
  have hfm : f < m := by rw [← ok.len]; exact (List.getElem?_eq_some_iff.1 hf).1
  obtain ⟨d, hd, hdf⟩ := wr_surj him hfm
  have hd0 : d ≠ 0 := by rintro rfl; rw [wr_zero him] at hdf; subst hdf; rw [hT] at hf; cases hf
  -- the first free place behind i
  have first : ∀ n d : Nat, d ≤ n → 1 ≤ d → d < m → T[wr m i d]? = some none → ∃ L, 1 ≤ L ∧ L < m ∧ T[wr m i L]? = some none ∧ ∀ l', 1 ≤ l' → l' < L → ∃ e, T[wr m i l']? = some (some e) := by
    intro n
    induction n with
    | zero => intro d h1 h2; omega
    | succ n ih =>
      intro d h1 h2 h3 h4
      by_cases hex : ∃ d', 1 ≤ d' ∧ d' < d ∧ T[wr m i d']? = some none
      · obtain ⟨d', g1, g2, g3⟩ := hex
        exact ih d' (by omega) g1 (by omega) g3
      · refine ⟨d, h2, h3, h4, fun l' g1 g2 => ?_⟩
        have hlt : wr m i l' < T.length := by rw [ok.len]; exact wr_lt him (by omega)
        cases ho : T[wr m i l']'hlt with
        | none => exact absurd ⟨l', g1, g2, by rw [List.getElem?_eq_getElem hlt, ho]⟩ hex
        | some e => exact ⟨e, by rw [List.getElem?_eq_getElem hlt, ho]⟩
  obtain ⟨L, L1, L2, L3, L4⟩ := first d d (Nat.le_refl _) (by omega) hd (by rw [hdf]; exact hf)
  have hne : ∀ l', 1 ≤ l' → l' < m → i ≠ wr m i l' := fun l' g1 g2 e => by
    have := wr_inj him (by omega) g2 ((wr_zero him).trans e)
    omega
  refine ⟨L, ok, him, hT, Nat.le_refl _, L1, L2, L3, L4, by rw [List.length_set]; exact ok.len, fun i1 j1 b1 k1 v1 b2 v2 h1 h2 => ?_, ?_, fun l' g1 g2 => ?_, fun s b' k' v' hs => ?_, fun e => ?_, occ_del hT⟩
  · rw [set_at hi] at h1 h2
    by_cases hi1 : i = i1
    · rw [if_pos hi1] at h1; cases h1
    · by_cases hj1 : i = j1
      · rw [if_pos hj1] at h2; cases h2
      · rw [if_neg hi1] at h1
        rw [if_neg hj1] at h2
        exact ok.key _ _ _ _ _ _ _ h1 h2
  · rw [set_at hi, if_neg (hne L L1 L2)]; exact L3
  · rw [set_at hi, if_neg (hne l' g1 (by omega))]
  · rw [set_at hi] at hs
    by_cases his : i = s
    · rw [if_pos his] at hs; cases hs
    · rw [if_neg his] at hs
      obtain ⟨d1, g1, g2, g3⟩ := ok.reach _ _ _ _ hs
      by_cases hp : ∃ d', d' < d1 ∧ wr m (h k') d' = i
      · obtain ⟨d', p1, p2⟩ := hp
        -- s lies behind i, before the free place
        refine .inl ⟨d1 - d', by omega, ?_, ?_⟩
        · rcases Nat.lt_or_ge (d1 - d') L with h1 | h1
          · exact h1
          · exfalso
            have hw : wr m i L = wr m (h k') (d' + L) := by rw [← p2]; exact wr_add (ok.hm k') (by omega)
            by_cases hlt : d' + L < d1
            · obtain ⟨e, he⟩ := g3 _ hlt
              rw [← hw, L3] at he; cases he
            · have : d' + L = d1 := by omega
              rw [this, g2] at hw
              rw [hw, hs] at L3; cases L3
        · rw [← g2, ← p2, wr_add (ok.hm k') (by omega)]
          congr 1; omega
      · refine .inr ⟨d1, g1, g2, fun d' hd' => ?_⟩
        rw [set_at hi, if_neg (fun e => hp ⟨d', hd', e.symm⟩)]
        exact g3 d' hd'
  · constructor
    · rintro ⟨j, hj⟩
      rw [set_at hi] at hj
      by_cases hij : i = j
      · rw [if_pos hij] at hj; cases hj
      · rw [if_neg hij] at hj
        refine ⟨⟨j, hj⟩, fun hk => hij ?_⟩
        obtain ⟨b1, k1, v1⟩ := e
        simp only at hk
        subst hk
        exact ok.key _ _ _ _ _ _ _ hT hj
    · rintro ⟨⟨j, hj⟩, hk⟩
      refine ⟨j, ?_⟩
      rw [set_at hi, if_neg (fun hij => hk ?_)]
      · exact hj
      · subst hij
        rw [hT] at hj
        simp only [Option.some.injEq] at hj
        rw [← hj]

theorem Del.next {m : Nat} {h : Int → Nat} {T S : Tb} {i b L l : Nat} {k v : Int} (D : Del m h T i b k v L l S) (hl : l < L) : ∃ b1 k1 v1, S[wr m i l]? = some (some (b1, k1, v1)) := by
  obtain ⟨⟨b1, k1, v1⟩, he⟩ := D.mid l D.l1 hl
  exact ⟨b1, k1, v1, (D.same l (Nat.le_refl _) hl).trans he⟩
theorem Del.stop {m : Nat} {h : Int → Nat} {T S : Tb} {i b L l : Nat} {k v : Int} (D : Del m h T i b k v L l S) (hl : S[wr m i l]? = some none) : l = L := by
  have := D.lL
  rcases Nat.lt_or_ge l L with h1 | h1
  · obtain ⟨b1, k1, v1, he⟩ := D.next h1
    rw [hl] at he; cases he
  · omega
theorem Del.done {m : Nat} {h : Int → Nat} {T S : Tb} {i b L : Nat} {k v : Int} (D : Del m h T i b k v L L S) : Ok m h S := by
  refine ⟨D.len, D.ok.hm, D.key, fun s b' k' v' hs => ?_⟩
  rcases D.reach s b' k' v' hs with ⟨l', h1, h2, _⟩ | hr
  · omega
  · exact hr

/-- one entry is taken out and put again -/
theorem Del.step {m : Nat} {h : Int → Nat} {T S : Tb} {i b L l s b1 : Nat} {k v k1 v1 : Int} (D : Del m h T i b k v L l S) (hl : l < L) (he : S[wr m i l]? = some (some (b1, k1, v1))) (hF : Found m h (S.set (wr m i l) none) k1 s) :
    (S.set (wr m i l) none)[s]? = some none ∧ Del m h T i b k v L (l + 1) ((S.set (wr m i l) none).set s (some (b1, k1, v1))) := by
  have hlm : l < m := by have := D.Lm; omega
  have hjm : wr m i l < m := wr_lt D.hi hlm
  have hj : wr m i l < S.length := by rw [D.len]; exact hjm
  obtain ⟨S1, hS1⟩ : ∃ S1, S1 = S.set (wr m i l) none := ⟨_, rfl⟩
  rw [← hS1] at hF ⊢
  have at1 : ∀ a : Nat, S1[a]? = if wr m i l = a then some none else S[a]? := fun a => by rw [hS1]; exact set_at hj a
  have len1 : S1.length = m := by rw [hS1, List.length_set]; exact D.len
  have hsm := hF.lt (D.ok.hm k1)
  have nokey : ∀ (a b' : Nat) (v' : Int), S1[a]? ≠ some (some (b', k1, v')) := by
    intro a b' v' ha
    rw [at1] at ha
    by_cases h1 : wr m i l = a
    · rw [if_pos h1] at ha; cases ha
    · rw [if_neg h1] at ha
      exact h1 (D.key _ _ _ _ _ _ _ he ha)
  obtain ⟨d, f1, f2, f3, f4⟩ := hF
  have hn : S1[s]? = some none := by
    rcases f4 with h1 | ⟨b', v', h1⟩
    · exact h1
    · exact absurd h1 (nokey s b' v')
  refine ⟨hn, ?_⟩
  have hs : s < S1.length := by rw [len1]; exact hsm
  have at2 : ∀ a : Nat, (S1.set s (some (b1, k1, v1)))[a]? = if s = a then some (some (b1, k1, v1)) else S1[a]? := fun a => set_at hs a
  have more : ∀ a : Nat, (∃ e, S1[a]? = some (some e)) → ∃ e, (S1.set s (some (b1, k1, v1)))[a]? = some (some e) := by
    rintro a ⟨e, hx⟩
    rw [at2]
    split
    · exact ⟨_, rfl⟩
    · exact ⟨e, hx⟩
  -- the path of the entry in the old table avoids the free place
  obtain ⟨dT, t1, t2, t3⟩ := D.ok.reach _ _ _ _ ((D.same l (Nat.le_refl _) hl).symm.trans he)
  have hdT : d ≤ dT := by
    rcases Nat.lt_or_ge dT d with h1 | h1
    · exfalso
      obtain ⟨b', k', v', hx, _⟩ := f3 dT h1
      rw [t2, at1, if_pos rfl] at hx
      cases hx
    · exact h1
  have hsL : s ≠ wr m i L := by
    intro e
    rcases Nat.lt_or_ge d dT with h1 | h1
    · obtain ⟨x, hx⟩ := t3 d h1
      rw [f2, e, D.free] at hx; cases hx
    · have hdd : d = dT := by omega
      rw [hdd, t2] at f2
      have := wr_inj D.hi hlm D.Lm (f2.trans e)
      omega
  have hjl : ∀ l', l < l' → l' < m → wr m i l ≠ wr m i l' := fun l' g1 g2 e => by
    have := wr_inj D.hi hlm g2 e
    omega
  refine ⟨D.ok, D.hi, D.at_, by omega, by omega, D.Lm, D.free, D.mid, by rw [List.length_set]; exact len1, fun i1 j1 b' k' v' b'' v'' h1 h2 => ?_, ?_, fun l' g1 g2 => ?_, fun s' b' k' v' hs' => ?_, fun e => ?_, ?_⟩
  · rw [at2] at h1 h2
    by_cases c1 : s = i1 <;> by_cases c2 : s = j1
    · omega
    · rw [if_pos c1] at h1
      rw [if_neg c2] at h2
      simp only [Option.some.injEq, Prod.mk.injEq] at h1
      obtain ⟨_, rfl, _⟩ := h1
      exact absurd h2 (nokey _ _ _)
    · rw [if_neg c1] at h1
      rw [if_pos c2] at h2
      simp only [Option.some.injEq, Prod.mk.injEq] at h2
      obtain ⟨_, rfl, _⟩ := h2
      exact absurd h1 (nokey _ _ _)
    · rw [if_neg c1] at h1
      rw [if_neg c2] at h2
      rw [at1] at h1 h2
      by_cases e1 : wr m i l = i1
      · rw [if_pos e1] at h1; cases h1
      · by_cases e2 : wr m i l = j1
        · rw [if_pos e2] at h2; cases h2
        · rw [if_neg e1] at h1
          rw [if_neg e2] at h2
          exact D.key _ _ _ _ _ _ _ h1 h2
  · rw [at2, if_neg hsL, at1, if_neg (hjl L hl D.Lm)]
    exact D.end_
  · rw [at2, at1]
    have hLm := D.Lm
    have hx := D.same l' (by omega) g2
    have c1 : ¬ s = wr m i l' := by
      intro e
      obtain ⟨y, hy⟩ := D.mid l' (by omega) g2
      rw [e, at1, if_neg (hjl l' (by omega) (by omega)), hx, hy] at hn
      cases hn
    rw [if_neg c1, if_neg (hjl l' (by omega) (by omega))]
    exact hx
  · rw [at2] at hs'
    by_cases c1 : s = s'
    · rw [if_pos c1] at hs'
      simp only [Option.some.injEq, Prod.mk.injEq] at hs'
      obtain ⟨_, rfl, _⟩ := hs'
      refine .inr ⟨d, f1, f2.trans c1, fun d' hd' => more _ ?_⟩
      obtain ⟨x, y, z, hx, _⟩ := f3 d' hd'
      exact ⟨_, hx⟩
    · rw [if_neg c1, at1] at hs'
      by_cases c2 : wr m i l = s'
      · rw [if_pos c2] at hs'; cases hs'
      · rw [if_neg c2] at hs'
        rcases D.reach s' b' k' v' hs' with ⟨l', g1, g2, g3⟩ | ⟨d1, g1, g2, g3⟩
        · refine .inl ⟨l', ?_, g2, g3⟩
          rcases Nat.lt_or_ge l l' with h1 | h1
          · omega
          · have : l' = l := by omega
            subst this
            exact absurd g3.symm c2
        · by_cases hp : ∃ d', d' < d1 ∧ wr m (h k') d' = wr m i l
          · obtain ⟨d', p1, p2⟩ := hp
            refine .inl ⟨l + (d1 - d'), by omega, ?_, ?_⟩
            · rcases Nat.lt_or_ge (l + (d1 - d')) L with h1 | h1
              · exact h1
              · exfalso
                have hLm := D.Lm
                have hw : wr m i L = wr m (h k') (d' + (L - l)) := by
                  rw [← wr_add (D.ok.hm k') (by omega), p2, wr_add D.hi (by omega)]
                  congr 1; omega
                have hend := D.end_
                by_cases hlt : d' + (L - l) < d1
                · obtain ⟨e, hx⟩ := g3 _ hlt
                  rw [← hw, hend] at hx; cases hx
                · have hdd : d' + (L - l) = d1 := by omega
                  rw [hdd, g2] at hw
                  rw [hw, hs'] at hend; cases hend
            · rw [← g2]
              by_cases hlt : l + (d1 - d') < m
              · rw [← wr_add D.hi hlt, ← p2, wr_add (D.ok.hm k') (by omega)]
                congr 1; omega
              · exfalso
                have hLm := D.Lm
                have hw : wr m i L = wr m (h k') (d' + (L - l)) := by
                  rw [← wr_add (D.ok.hm k') (by omega), p2, wr_add D.hi (by omega)]
                  congr 1; omega
                obtain ⟨e, hx⟩ := g3 (d' + (L - l)) (by omega)
                rw [← hw, D.end_] at hx; cases hx
          · refine .inr ⟨d1, g1, g2, fun d' hd' => more _ ?_⟩
            rw [at1, if_neg (fun e => hp ⟨d', hd', e.symm⟩)]
            exact g3 d' hd'
  · rw [has_set hs hn]
    constructor
    · rintro (⟨j, hx⟩ | rfl)
      · rw [at1] at hx
        by_cases c1 : wr m i l = j
        · rw [if_pos c1] at hx; cases hx
        · rw [if_neg c1] at hx; exact (D.has e).1 ⟨j, hx⟩
      · exact (D.has _).1 ⟨_, he⟩
    · intro hx
      obtain ⟨j, hj2⟩ := (D.has e).2 hx
      by_cases c1 : wr m i l = j
      · subst c1
        rw [he] at hj2
        injection hj2 with hj2
        injection hj2 with hj2
        exact .inr hj2.symm
      · exact .inl ⟨j, by rw [at1, if_neg c1]; exact hj2⟩
  · rw [occ_new hn]
    have h1 := occ_del he
    rw [← hS1] at h1
    rw [h1]
    exact D.occ_
end Fi
end Go.Proofs.Ytidekgmpbcnfmaa
