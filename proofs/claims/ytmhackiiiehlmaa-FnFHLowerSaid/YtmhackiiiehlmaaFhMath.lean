/- Fibonacci heaps as rings of nodes: splicing, taking out, linking, cutting, consolidating. No program in sight. -/
import Derived.KernelRfl
namespace Go.Proofs.Ytmhackiiiehlmaa
namespace Fh
structure St where
  nx : Nat → Nat
  pv : Nat → Nat
  ch : Nat → Option Nat
  pa : Nat → Option Nat
  dg : Nat → Nat
  ma : Nat → Bool
  pr : Nat → Int
def upd {α : Type} (f : Nat → α) (a : Nat) (v : α) : Nat → α := fun x => if x = a then v else f x
theorem upd_same {α : Type} (f : Nat → α) (a : Nat) (v : α) : upd f a v a = v := if_pos rfl
theorem upd_ne {α : Type} (f : Nat → α) {a x : Nat} (v : α) (h : x ≠ a) : upd f a v x = f x := if_neg h

theorem ne_mem {x a : Nat} {l : List Nat} (h : x ∈ l) (ha : a ∉ l) : x ≠ a := fun e => ha (e ▸ h)
theorem ne_mem' {x a : Nat} {l : List Nat} (h : a ∈ l) (hx : x ∉ l) : x ≠ a := fun e => hx (e ▸ h)

def Seg (n p : Nat → Nat) : Nat → List Nat → Nat → Prop
  | a, [], b => n a = b ∧ p b = a
  | a, x :: l, b => n a = x ∧ p x = a ∧ Seg n p x l b
theorem seg_append {n p : Nat → Nat} (l : List Nat) : ∀ (a x : Nat) (l' : List Nat) (b : Nat), Seg n p a (l ++ x :: l') b ↔ Seg n p a l x ∧ Seg n p x l' b := by
  induction l with
  | nil => intro a x l' b; simp [Seg, and_assoc]
  | cons y l ih => intro a x l' b; simp [Seg, ih, and_assoc]
theorem seg_congr {n p n' p' : Nat → Nat} (l : List Nat) : ∀ (a b : Nat), Seg n p a l b → (∀ x ∈ a :: l, n' x = n x) → (∀ x ∈ l ++ [b], p' x = p x) → Seg n' p' a l b := by
  induction l with
  | nil =>
    intro a b h h1 h2
    exact ⟨(h1 a (by simp)).trans h.1, (h2 b (by simp)).trans h.2⟩
  | cons y l ih =>
    intro a b h h1 h2
    exact ⟨(h1 a (by simp)).trans h.1, (h2 y (by simp)).trans h.2.1, ih y b h.2.2 (fun x hx => h1 x (List.mem_cons_of_mem _ hx)) (fun x hx => h2 x (List.mem_cons_of_mem _ hx))⟩
def Ring (n p : Nat → Nat) : List Nat → Prop
  | [] => True
  | x :: l => Seg n p x l x
theorem ring_turn {n p : Nat → Nat} {l l' : List Nat} (h : Ring n p (l ++ l')) : Ring n p (l' ++ l) := by
  cases l with
  | nil => simpa using h
  | cons a l =>
    cases l' with
    | nil => simpa using h
    | cons x l' =>
      have h' : Seg n p a (l ++ x :: l') a := h
      rw [seg_append] at h'
      show Seg n p x (l' ++ a :: l) x
      rw [seg_append]
      exact ⟨h'.2, h'.1⟩
theorem ring_congr {n p n' p' : Nat → Nat} {l : List Nat} (h : Ring n p l) (h1 : ∀ x ∈ l, n' x = n x) (h2 : ∀ x ∈ l, p' x = p x) : Ring n' p' l := by
  cases l with
  | nil => trivial
  | cons a l =>
    refine seg_congr l a a h h1 (fun x hx => h2 x ?_)
    rcases List.mem_append.1 hx with h | h
    · exact List.mem_cons_of_mem _ h
    · rw [List.mem_singleton.1 h]; exact List.mem_cons_self
theorem ring_nx {n p : Nat → Nat} {a : Nat} {l : List Nat} (h : Ring n p (a :: l)) : n a = (l ++ [a]).headD a ∧ n a ∈ a :: l := by
  cases l with
  | nil => exact ⟨h.1, by rw [h.1]; simp⟩
  | cons y l => exact ⟨h.1, by rw [h.1]; simp⟩

/-- two rings made one: a's next becomes b's, b's becomes a's -/
def spN (s : St) (a b : Nat) : Nat → Nat := upd (upd s.nx a (s.nx b)) b (s.nx a)
def spP (s : St) (a b : Nat) : Nat → Nat := upd (upd s.pv (s.nx b) a) (s.nx a) b
theorem splice_half {n p n' p' : Nat → Nat} {a b : Nat} {l : List Nat} (h : Seg n p b l b) (hn : n' a = n b) (hp : p' (n b) = a) (hl : (b :: l).Nodup)
    (h1 : ∀ x ∈ l, n' x = n x) (h2 : ∀ x ∈ b :: l, x ≠ n b → p' x = p x) : Seg n' p' a l b := by
  cases l with
  | nil => exact ⟨hn.trans h.1, by rw [← h.1]; exact (congrArg p' (by rw [h.1])).trans hp⟩
  | cons y l =>
    obtain ⟨e1, e2, e3⟩ := h
    refine ⟨hn.trans e1, by rw [← e1]; exact hp, seg_congr l y b e3 h1 (fun x hx => ?_)⟩
    rw [e1] at h2
    have hy : y ∉ l ++ [b] := by
      rw [List.nodup_cons, List.nodup_cons] at hl
      simp only [List.mem_append, List.mem_singleton, not_or]
      exact ⟨hl.2.1, fun e => hl.1 (by rw [← e]; simp)⟩
    refine h2 x ?_ (ne_mem hx hy)
    rcases List.mem_append.1 hx with h | h
    · exact List.mem_cons_of_mem _ (List.mem_cons_of_mem _ h)
    · rw [List.mem_singleton.1 h]; exact List.mem_cons_self
theorem splice_ring {s : St} {a b : Nat} {l1 l2 : List Nat} (h1 : Ring s.nx s.pv (a :: l1)) (h2 : Ring s.nx s.pv (b :: l2)) (hd : (a :: l1 ++ b :: l2).Nodup) : Ring (spN s a b) (spP s a b) (a :: l2 ++ b :: l1) := by
  have hd' := List.nodup_append.1 hd
  have hab : a ≠ b := hd'.2.2 a (by simp) b (by simp)
  have m1 := (ring_nx h1).2
  have m2 := (ring_nx h2).2
  show Seg _ _ a (l2 ++ b :: l1) a
  rw [seg_append]
  have hc : s.nx a ≠ s.nx b := hd'.2.2 _ m1 _ m2
  constructor
  · refine splice_half h2 ?_ ?_ hd'.2.1 (fun x hx => ?_) (fun x hx hne => ?_)
    · unfold spN; rw [upd_ne _ _ hab, upd_same]
    · unfold spP; rw [upd_ne _ _ hc.symm, upd_same]
    · unfold spN
      rw [upd_ne _ _ (ne_mem hx (List.nodup_cons.1 hd'.2.1).1), upd_ne _ _ (fun e => hd'.2.2 a (by simp) x (List.mem_cons_of_mem _ hx) e.symm)]
    · unfold spP
      rw [upd_ne _ _ (fun e => hd'.2.2 _ m1 x hx e.symm), upd_ne _ _ hne]
  · refine splice_half h1 ?_ ?_ hd'.1 (fun x hx => ?_) (fun x hx hne => ?_)
    · unfold spN; rw [upd_same]
    · unfold spP; rw [upd_same]
    · unfold spN
      rw [upd_ne _ _ (fun e => hd'.2.2 x (List.mem_cons_of_mem _ hx) b (by simp) e), upd_ne _ _ (ne_mem hx (List.nodup_cons.1 hd'.1).1)]
    · unfold spP
      rw [upd_ne _ _ hne, upd_ne _ _ (fun e => hd'.2.2 x hx _ m2 e)]
/-- others' rings are left -/
theorem splice_other {s : St} {a b : Nat} {l1 l2 l : List Nat} (h1 : Ring s.nx s.pv (a :: l1)) (h2 : Ring s.nx s.pv (b :: l2)) (h : Ring s.nx s.pv l) (hd : ∀ x ∈ l, x ∉ a :: l1 ∧ x ∉ b :: l2) : Ring (spN s a b) (spP s a b) l := by
  have m1 := (ring_nx h1).2
  have m2 := (ring_nx h2).2
  refine ring_congr h (fun x hx => ?_) (fun x hx => ?_)
  · unfold spN
    rw [upd_ne _ _ (fun e => (hd x hx).2 (by rw [e]; simp)), upd_ne _ _ (fun e => (hd x hx).1 (by rw [e]; simp))]
  · unfold spP
    rw [upd_ne _ _ (ne_mem' m1 (hd x hx).1), upd_ne _ _ (ne_mem' m2 (hd x hx).2)]
/-- a node out of its ring -/
def outN (s : St) (x : Nat) : Nat → Nat := upd s.nx (s.pv x) (s.nx x)
def outP (s : St) (x : Nat) : Nat → Nat := upd s.pv (s.nx x) (s.pv x)
theorem out_ring {s : St} {x y : Nat} {l : List Nat} (h : Ring s.nx s.pv (x :: y :: l)) (hd : (x :: y :: l).Nodup) : Ring (outN s x) (outP s x) (y :: l) ∧ s.nx x = y ∧ s.pv x ∈ y :: l := by
  obtain ⟨e1, e2, e3⟩ := h
  rw [List.nodup_cons, List.nodup_cons] at hd
  rcases List.eq_nil_or_concat l with rfl | ⟨l', z, rfl⟩
  · obtain ⟨f1, f2⟩ := e3
    refine ⟨?_, e1, by rw [f2]; simp⟩
    show Seg _ _ y [] y
    exact ⟨by unfold outN; rw [f2, upd_same, e1], by unfold outP; rw [e1, upd_same, f2]⟩
  · rw [List.concat_eq_append] at e3 hd ⊢
    rw [seg_append] at e3
    obtain ⟨g1, g2, g3⟩ := e3
    refine ⟨?_, e1, by rw [g3]; simp⟩
    show Seg _ _ y (l' ++ [z]) y
    rw [seg_append]
    have hyl : y ∉ l' ++ [z] := hd.2.1
    have hz : z ∉ y :: l' := by
      have := hd.2.2
      rw [List.nodup_append] at this
      intro hm
      rcases List.mem_cons.1 hm with e | e
      · exact hyl (by rw [e]; simp)
      · exact this.2.2 z e z (by simp) rfl
    refine ⟨seg_congr l' y z g1 (fun w hw => ?_) (fun w hw => ?_), ?_, ?_⟩
    · unfold outN; rw [g3, upd_ne _ _ (ne_mem hw hz)]
    · unfold outP; rw [e1, upd_ne _ _ (ne_mem hw hyl)]
    · unfold outN; rw [g3, upd_same, e1]
    · unfold outP; rw [e1, upd_same, g3]
theorem out_other {s : St} {x : Nat} {l l' : List Nat} (h : Ring s.nx s.pv (x :: l)) (hp : s.pv x ∈ x :: l) (h' : Ring s.nx s.pv l') (hd : ∀ w ∈ l', w ∉ x :: l) : Ring (outN s x) (outP s x) l' := by
  have m1 := (ring_nx h).2
  refine ring_congr h' (fun w hw => ?_) (fun w hw => ?_)
  · unfold outN; rw [upd_ne _ _ (ne_mem' hp (hd w hw))]
  · unfold outP; rw [upd_ne _ _ (ne_mem' m1 (hd w hw))]
theorem ring_pv {n p : Nat → Nat} {a : Nat} {l : List Nat} (h : Ring n p (a :: l)) : p a ∈ a :: l := by
  rcases List.eq_nil_or_concat l with rfl | ⟨l', z, rfl⟩
  · rw [h.2]; simp
  · rw [List.concat_eq_append] at h ⊢
    have h' : Seg n p a (l' ++ [z]) a := h
    rw [seg_append] at h'
    rw [h'.2.2]; simp
/-- alone in its ring -/
theorem ring_one {n p : Nat → Nat} {a : Nat} {l : List Nat} (h : Ring n p (a :: l)) (hd : (a :: l).Nodup) : n a = a ↔ l = [] := by
  cases l with
  | nil => exact ⟨fun _ => rfl, fun _ => h.1⟩
  | cons y l =>
    refine ⟨fun e => ?_, fun e => by cases e⟩
    have := h.1
    rw [e] at this
    exact absurd (List.nodup_cons.1 hd).1 (by rw [this]; simp)
def merge (s : St) (a b : Nat) : St := { s with nx := spN s a b, pv := spP s a b }
def out (s : St) (x : Nat) : St := { s with nx := outN s x, pv := outP s x }
def solo (s : St) (x : Nat) : St := { s with nx := upd s.nx x x, pv := upd s.pv x x }
/-- a heap: the nodes D, the roots in two rings, the children's rings, the parents -/
structure Inv (s : St) (D R Q : List Nat) (K : Nat → List Nat) (P : Nat → Option Nat) : Prop where
  rn : Ring s.nx s.pv R
  qn : Ring s.nx s.pv Q
  kn : ∀ b ∈ D, Ring s.nx s.pv (K b)
  ch : ∀ b ∈ D, s.ch b = (K b).head?
  dg : ∀ b ∈ D, s.dg b = (K b).length
  mR : ∀ x, x ∈ R ++ Q ↔ x ∈ D ∧ P x = none
  mK : ∀ b ∈ D, ∀ x, x ∈ K b ↔ x ∈ D ∧ P x = some b
  dm : ∀ x ∈ D, ∀ b, P x = some b → b ∈ D
  rd : (R ++ Q).Nodup
  kd : ∀ b ∈ D, (K b).Nodup
  rk : ∃ r : Nat → Nat, ∀ x ∈ D, ∀ b, P x = some b → r x < r b
theorem Inv.swap {s : St} {D R Q : List Nat} {K : Nat → List Nat} {P : Nat → Option Nat} (h : Inv s D R Q K P) : Inv s D Q R K P :=
  ⟨h.qn, h.rn, h.kn, h.ch, h.dg, fun x => by rw [← h.mR x]; simp [or_comm], h.mK, h.dm, by
    have := List.nodup_append.1 h.rd
    exact List.nodup_append.2 ⟨this.2.1, this.1, fun a ha b hb e => this.2.2 b hb a ha e.symm⟩, h.kd, h.rk⟩
theorem Inv.apart {s : St} {D R Q : List Nat} {K : Nat → List Nat} {P : Nat → Option Nat} (h : Inv s D R Q K P) {b : Nat} (hb : b ∈ D) : ∀ x ∈ K b, x ∉ R ++ Q := fun x hx hr => by
  have h1 := ((h.mK b hb x).1 hx).2
  rw [((h.mR x).1 hr).2] at h1
  cases h1
theorem Inv.apart2 {s : St} {D R Q : List Nat} {K : Nat → List Nat} {P : Nat → Option Nat} (h : Inv s D R Q K P) {b c : Nat} (hb : b ∈ D) (hc : c ∈ D) (hbc : b ≠ c) : ∀ x ∈ K b, x ∉ K c := fun x hx hr => by
  have h1 := ((h.mK b hb x).1 hx).2
  rw [((h.mK c hc x).1 hr).2] at h1
  injection h1 with h1
  exact hbc h1.symm
theorem Inv.turn {s : St} {D l l' Q : List Nat} {K : Nat → List Nat} {P : Nat → Option Nat} (h : Inv s D (l ++ l') Q K P) : Inv s D (l' ++ l) Q K P := by
  have hm : ∀ x, x ∈ (l' ++ l) ++ Q ↔ x ∈ (l ++ l') ++ Q := fun x => by simp [or_left_comm]
  refine ⟨ring_turn h.rn, h.qn, h.kn, h.ch, h.dg, fun x => (hm x).trans (h.mR x), h.mK, h.dm, ?_, h.kd, h.rk⟩
  exact (List.Perm.nodup_iff ((List.perm_append_comm (l₁ := l') (l₂ := l)).append_right Q)).2 h.rd
/-- any root may stand first -/
theorem Inv.first {s : St} {D R Q : List Nat} {K : Nat → List Nat} {P : Nat → Option Nat} (h : Inv s D R Q K P) {x : Nat} (hx : x ∈ R) : ∃ l, Inv s D (x :: l) Q K P ∧ R.Perm (x :: l) := by
  obtain ⟨l1, l2, rfl⟩ := List.append_of_mem hx
  exact ⟨l2 ++ l1, by have := h.turn; simpa using this, by
    have : (l1 ++ x :: l2).Perm ((x :: l2) ++ l1) := List.perm_append_comm
    simpa using this⟩
/-- both rings of roots made one -/
theorem Inv.merge {s : St} {D l1 l2 : List Nat} {a b : Nat} {K : Nat → List Nat} {P : Nat → Option Nat} (h : Inv s D (a :: l1) (b :: l2) K P) : Inv (merge s a b) D (a :: l2 ++ b :: l1) [] K P := by
  have hm : ∀ x, x ∈ (a :: l2 ++ b :: l1) ++ [] ↔ x ∈ (a :: l1) ++ (b :: l2) := fun x => by simp [or_left_comm, or_comm, or_assoc]
  refine ⟨splice_ring h.rn h.qn h.rd, trivial, fun c hc => splice_other h.rn h.qn (h.kn c hc) (fun x hx => ?_), h.ch, h.dg, fun x => (hm x).trans (h.mR x), h.mK, h.dm, ?_, h.kd, h.rk⟩
  · have := h.apart hc x hx
    rw [List.mem_append, not_or] at this
    exact this
  · rw [List.append_nil]
    have hp : (a :: l2 ++ b :: l1).Perm (a :: l1 ++ b :: l2) := by
      simp only [List.cons_append]
      refine List.Perm.cons a ?_
      have e1 : (l2 ++ b :: l1).Perm (b :: l1 ++ l2) := List.perm_append_comm
      have e2 : (l1 ++ b :: l2).Perm (b :: (l1 ++ l2)) := List.perm_middle
      exact e1.trans e2.symm
    exact (List.Perm.nodup_iff hp).2 h.rd
/-- a new node -/
theorem Inv.enter {s s' : St} {D R : List Nat} {b : Nat} {K : Nat → List Nat} {P : Nat → Option Nat} (h : Inv s D R [] K P) (hb : b ∉ D)
    (e : ∀ x ∈ D, s'.nx x = s.nx x ∧ s'.pv x = s.pv x ∧ s'.ch x = s.ch x ∧ s'.dg x = s.dg x) (e1 : s'.nx b = b) (e2 : s'.pv b = b) (e3 : s'.ch b = none) (e4 : s'.dg b = 0) : Inv s' (b :: D) R [b] (upd K b []) (upd P b none) := by
  have hR : ∀ x ∈ R, x ∈ D := fun x hx => ((h.mR x).1 (by simp [hx])).1
  have hK : ∀ c ∈ D, ∀ x ∈ K c, x ∈ D := fun c hc x hx => ((h.mK c hc x).1 hx).1
  have hne : ∀ x ∈ D, x ≠ b := fun x hx => ne_mem hx hb
  obtain ⟨r, hr⟩ := h.rk
  refine ⟨ring_congr h.rn (fun x hx => (e x (hR x hx)).1) (fun x hx => (e x (hR x hx)).2.1), ⟨e1, e2⟩, fun c hc => ?_, fun c hc => ?_, fun c hc => ?_, fun x => ?_, fun c hc x => ?_, fun x hx c hc => ?_, ?_, fun c hc => ?_, r, fun x hx c hc => ?_⟩
  · rcases List.mem_cons.1 hc with rfl | hc
    · rw [upd_same]; trivial
    · rw [upd_ne _ _ (hne c hc)]
      exact ring_congr (h.kn c hc) (fun x hx => (e x (hK c hc x hx)).1) (fun x hx => (e x (hK c hc x hx)).2.1)
  · rcases List.mem_cons.1 hc with rfl | hc
    · rw [upd_same]; exact e3
    · rw [upd_ne _ _ (hne c hc), (e c hc).2.2.1, h.ch c hc]
  · rcases List.mem_cons.1 hc with rfl | hc
    · rw [upd_same]; exact e4
    · rw [upd_ne _ _ (hne c hc), (e c hc).2.2.2, h.dg c hc]
  · by_cases hx : x = b
    · subst hx; simp [upd_same]
    · rw [upd_ne _ _ hx]
      have := h.mR x
      simp only [List.append_nil] at this
      simp [hx, this]
  · rcases List.mem_cons.1 hc with rfl | hc
    · rw [upd_same]
      by_cases hx : x = c
      · subst hx; simp [upd_same]
      · rw [upd_ne _ _ hx]
        simp only [List.not_mem_nil, false_iff, List.mem_cons, hx, false_or, not_and]
        exact fun hxD hp => hb (h.dm x hxD c hp)
    · rw [upd_ne _ _ (hne c hc), h.mK c hc]
      by_cases hx : x = b
      · subst hx; simp [upd_same, hb]
      · rw [upd_ne _ _ hx]; simp [hx]
  · by_cases hxb : x = b
    · subst hxb; rw [upd_same] at hc; cases hc
    · rw [upd_ne _ _ hxb] at hc
      rcases List.mem_cons.1 hx with h1 | h1
      · exact absurd h1 hxb
      · exact List.mem_cons_of_mem _ (h.dm x h1 c hc)
  · have hn := h.rd
    rw [List.append_nil] at hn
    exact List.nodup_append.2 ⟨hn, by simp, fun x hx y hy e => by
      rw [List.mem_singleton.1 hy] at e
      exact hb (e ▸ hR x hx)⟩
  · rcases List.mem_cons.1 hc with rfl | hc
    · rw [upd_same]; exact List.nodup_nil
    · rw [upd_ne _ _ (hne c hc)]; exact h.kd c hc
  · by_cases hxb : x = b
    · subst hxb; rw [upd_same] at hc; cases hc
    · rw [upd_ne _ _ hxb] at hc
      rcases List.mem_cons.1 hx with h1 | h1
      · exact absurd h1 hxb
      · exact hr x h1 c hc
/-- a root out of its ring, alone in one of its own -/
theorem Inv.alone {s : St} {D l : List Nat} {x y : Nat} {K : Nat → List Nat} {P : Nat → Option Nat} (h : Inv s D (x :: y :: l) [] K P) : Inv (solo (out s x) x) D (y :: l) [x] K P := by
  have hd := h.rd
  rw [List.append_nil] at hd
  have ho := out_ring h.rn hd
  have hx := (List.nodup_cons.1 hd).1
  have hs : ∀ {L : List Nat}, Ring (out s x).nx (out s x).pv L → x ∉ L → Ring (solo (out s x) x).nx (solo (out s x) x).pv L := fun {L} hL hn =>
    ring_congr hL (fun w hw => upd_ne _ _ (ne_mem hw hn)) (fun w hw => upd_ne _ _ (ne_mem hw hn))
  have hm : ∀ w, w ∈ (y :: l) ++ [x] ↔ w ∈ (x :: y :: l) ++ [] := fun w => by simp [or_left_comm, or_comm]
  refine ⟨hs ho.1 hx, ⟨upd_same _ _ _, upd_same _ _ _⟩, fun c hc => hs (out_other h.rn (ring_pv h.rn) (h.kn c hc) (fun w hw => ?_)) (fun hw => ?_), h.ch, h.dg, fun w => (hm w).trans (h.mR w), h.mK, h.dm, ?_, h.kd, h.rk⟩
  · have := h.apart hc w hw
    simpa using this
  · have := h.apart hc x hw
    simp at this
  · have hp : ((y :: l) ++ [x]).Perm (x :: y :: l) := by
      have : ((y :: l) ++ [x]).Perm ([x] ++ (y :: l)) := List.perm_append_comm
      simpa using this
    exact (List.Perm.nodup_iff hp).2 hd
theorem out_erase {s : St} {x : Nat} {L : List Nat} (h : Ring s.nx s.pv L) (hd : L.Nodup) (hx : x ∈ L) : Ring (out s x).nx (out s x).pv (L.erase x) := by
  obtain ⟨l1, l2, rfl⟩ := List.append_of_mem hx
  have h1 := List.nodup_append.1 hd
  have hx1 : x ∉ l1 := fun hm => h1.2.2 x hm x (by simp) rfl
  rw [List.erase_append_right _ hx1, List.erase_cons_head]
  have ht := ring_turn h
  have htd : ((x :: l2) ++ l1).Nodup := (List.Perm.nodup_iff (List.perm_append_comm)).1 hd
  cases hl : l2 ++ l1 with
  | nil =>
    rw [List.append_eq_nil_iff] at hl
    rw [hl.1, hl.2]
    trivial
  | cons y l =>
    have ht' : Ring s.nx s.pv (x :: y :: l) := by rw [← hl]; exact ht
    have hd' : (x :: y :: l).Nodup := by rw [← hl]; exact htd
    have ho := (out_ring ht' hd').1
    rw [← hl] at ho
    exact ring_turn ho
/-- the root m is gone: its children are roots, in a ring of their own -/
theorem Inv.gone {s : St} {D l : List Nat} {m : Nat} {K : Nat → List Nat} {P : Nat → Option Nat} (h : Inv s D (m :: l) [] K P) : Inv (out s m) (D.filter fun x => decide (x ≠ m)) l (K m) K (fun x => if P x = some m then none else P x) := by
  have hd := h.rd
  rw [List.append_nil] at hd
  have hmD : m ∈ D ∧ P m = none := (h.mR m).1 (by simp)
  have hml := (List.nodup_cons.1 hd).1
  have hpv := ring_pv h.rn
  have hmK : ∀ c ∈ D, m ∉ K c := fun c hc hm => by
    have := ((h.mK c hc m).1 hm).2
    rw [hmD.2] at this; cases this
  have hf : ∀ x, x ∈ D.filter (fun x => decide (x ≠ m)) ↔ x ∈ D ∧ x ≠ m := fun x => by simp
  have hko : ∀ c ∈ D, Ring (out s m).nx (out s m).pv (K c) := fun c hc => out_other h.rn hpv (h.kn c hc) (fun w hw => by have := h.apart hc w hw; simpa using this)
  obtain ⟨r, hr⟩ := h.rk
  refine ⟨?_, hko m hmD.1, fun c hc => hko c ((hf c).1 hc).1, fun c hc => h.ch c ((hf c).1 hc).1, fun c hc => h.dg c ((hf c).1 hc).1, fun x => ?_, fun b hb x => ?_, fun x hx b hb => ?_, ?_, fun c hc => h.kd c ((hf c).1 hc).1, r, fun x hx b hb => ?_⟩
  · have := out_erase h.rn hd (x := m) (by simp)
    rwa [List.erase_cons_head] at this
  · have hK := h.mK m hmD.1 x
    have hRx := h.mR x
    simp only [List.append_nil, List.mem_cons] at hRx
    rw [hf, List.mem_append, hK]
    by_cases hxm : x = m
    · subst hxm
      simp only [hml, hmD.2, reduceCtorEq, and_false, or_self, ne_eq, not_true_eq_false, false_and]
    · by_cases hp : P x = some m
      · simp only [hp, and_true, if_true, ne_eq, hxm, not_false_eq_true]
        constructor
        · rintro (h1 | h1)
          · exact (hRx.1 (.inr h1)).1
          · exact h1
        · exact .inr
      · simp only [hp, and_false, or_false, if_false, ne_eq, hxm, not_false_eq_true, and_true]
        rw [← hRx]
        simp [hxm]
  · have hb' := (hf b).1 hb
    rw [h.mK b hb'.1, hf]
    by_cases hp : P x = some m
    · simp only [hp, if_true, Option.some.injEq, reduceCtorEq, and_false, iff_false, not_and]
      exact fun _ e => hb'.2 e.symm
    · rw [if_neg hp]
      constructor
      · rintro ⟨h1, h2⟩
        exact ⟨⟨h1, fun e => by rw [e, hmD.2] at h2; cases h2⟩, h2⟩
      · rintro ⟨h1, h2⟩
        exact ⟨h1.1, h2⟩
  · by_cases hp : P x = some m
    · simp only [hp, if_true] at hb; cases hb
    · simp only [hp, if_false] at hb
      exact (hf b).2 ⟨h.dm x ((hf x).1 hx).1 b hb, fun e => hp (e ▸ hb)⟩
  · exact List.nodup_append.2 ⟨(List.nodup_cons.1 hd).2, h.kd m hmD.1, fun x hx y hy e => by
      have := h.apart hmD.1 y hy
      rw [← e] at this
      exact this (by simp [hx])⟩
  · by_cases hp : P x = some m
    · simp only [hp, if_true] at hb; cases hb
    · simp only [hp, if_false] at hb
      exact hr x ((hf x).1 hx).1 b hb
/-- a root alone is put under another root -/
theorem Inv.link {s s' : St} {D R L : List Nat} {x t : Nat} {K : Nat → List Nat} {P : Nat → Option Nat} (h : Inv s D R [x] K P) (ht : t ∈ R) (hp : L.Perm (x :: K t)) (hL : Ring s'.nx s'.pv L)
    (ho : ∀ l, Ring s.nx s.pv l → (∀ w ∈ l, w ∉ x :: K t) → Ring s'.nx s'.pv l) (hch : s'.ch = upd s.ch t L.head?) (hdg : s'.dg = upd s.dg t (s.dg t + 1)) : Inv s' D R [] (upd K t L) (upd P x (some t)) := by
  have hx := (h.mR x).1 (by simp)
  have htD := (h.mR t).1 (by simp [ht])
  have hrd := List.nodup_append.1 h.rd
  have hxR : x ∉ R := fun hm => hrd.2.2 x hm x (by simp) rfl
  have htx : t ≠ x := ne_mem ht hxR
  have hxK : ∀ c ∈ D, x ∉ K c := fun c hc hm => by
    have := ((h.mK c hc x).1 hm).2
    rw [hx.2] at this; cases this
  obtain ⟨r, hr⟩ := h.rk
  refine ⟨ho R h.rn (fun w hw hm => ?_), trivial, fun c hc => ?_, fun c hc => ?_, fun c hc => ?_, fun w => ?_, fun c hc w => ?_, fun w hw c hc => ?_, ?_, fun c hc => ?_, upd r t (max (r t) (r x + 1)), fun w hw c hc => ?_⟩
  · rcases List.mem_cons.1 hm with e | hm
    · exact hxR (e ▸ hw)
    · exact h.apart htD.1 w hm (by simp [hw])
  · by_cases hct : c = t
    · subst hct; rw [upd_same]; exact hL
    · rw [upd_ne _ _ hct]
      refine ho _ (h.kn c hc) (fun w hw hm => ?_)
      rcases List.mem_cons.1 hm with e | hm
      · exact hxK c hc (e ▸ hw)
      · exact h.apart2 hc htD.1 hct w hw hm
  · rw [hch]
    by_cases hct : c = t
    · subst hct; rw [upd_same, upd_same]
    · rw [upd_ne _ _ hct, upd_ne _ _ hct]; exact h.ch c hc
  · rw [hdg]
    by_cases hct : c = t
    · subst hct; rw [upd_same, upd_same, hp.length_eq, h.dg c hc]; rfl
    · rw [upd_ne _ _ hct, upd_ne _ _ hct]; exact h.dg c hc
  · rw [List.append_nil]
    have hRw := h.mR w
    by_cases hw : w = x
    · subst hw; simp [upd_same, hxR]
    · rw [upd_ne _ _ hw, ← hRw]; simp [hw]
  · by_cases hct : c = t
    · subst hct
      rw [upd_same, hp.mem_iff, List.mem_cons, h.mK c hc]
      by_cases hw : w = x
      · subst hw; simp [upd_same, hx.1]
      · rw [upd_ne _ _ hw]; simp [hw]
    · rw [upd_ne _ _ hct, h.mK c hc]
      by_cases hw : w = x
      · subst hw
        rw [upd_same, hx.2]
        simp only [reduceCtorEq, and_false, Option.some.injEq, false_iff, not_and]
        exact fun _ e => hct e.symm
      · rw [upd_ne _ _ hw]
  · by_cases hwx : w = x
    · subst hwx
      rw [upd_same] at hc
      injection hc with hc
      exact hc ▸ htD.1
    · rw [upd_ne _ _ hwx] at hc
      exact h.dm w hw c hc
  · rw [List.append_nil]; exact hrd.1
  · by_cases hct : c = t
    · subst hct
      rw [upd_same]
      exact (hp.nodup_iff).2 (List.nodup_cons.2 ⟨hxK c hc, h.kd c hc⟩)
    · rw [upd_ne _ _ hct]; exact h.kd c hc
  · by_cases hwx : w = x
    · subst hwx
      rw [upd_same] at hc
      injection hc with hc
      subst hc
      rw [upd_same, upd_ne _ _ htx.symm]
      omega
    · rw [upd_ne _ _ hwx] at hc
      have hwt : w ≠ t := fun e => by rw [e, htD.2] at hc; cases hc
      have h1 := hr w hw c hc
      rw [upd_ne _ _ hwt]
      by_cases hct : c = t
      · subst hct; rw [upd_same]; omega
      · rw [upd_ne _ _ hct]; exact h1
/-- a child is cut from its parent -/
theorem Inv.cut {s s' : St} {D R : List Nat} {x t : Nat} {K : Nat → List Nat} {P : Nat → Option Nat} (h : Inv s D R [] K P) (ht : t ∈ D) (hxt : x ∈ K t) (hn : s'.nx = (solo (out s x) x).nx) (hv : s'.pv = (solo (out s x) x).pv)
    (hch : s'.ch = upd s.ch t ((K t).erase x).head?) (hdg : s'.dg = upd s.dg t (s.dg t - 1)) : Inv s' D R [x] (upd K t ((K t).erase x)) (upd P x none) := by
  have hx := (h.mK t ht x).1 hxt
  have hxR : x ∉ R := fun hm => h.apart ht x hxt (by simp [hm])
  have hd := h.rd
  rw [List.append_nil] at hd
  obtain ⟨k1, k2, hk⟩ := List.append_of_mem hxt
  have hturn : Ring s.nx s.pv (x :: (k2 ++ k1)) := by
    have := h.kn t ht
    rw [hk] at this
    exact ring_turn this
  have hmem : ∀ w, w ∈ x :: (k2 ++ k1) ↔ w ∈ K t := fun w => by rw [hk]; simp [or_left_comm, or_comm]
  have hs : ∀ {L : List Nat}, Ring (out s x).nx (out s x).pv L → x ∉ L → Ring s'.nx s'.pv L := fun {L} hL hno => by
    rw [hn, hv]
    exact ring_congr hL (fun w hw => upd_ne _ _ (ne_mem hw hno)) (fun w hw => upd_ne _ _ (ne_mem hw hno))
  have hoth : ∀ {L : List Nat}, Ring s.nx s.pv L → (∀ w ∈ L, w ∉ K t) → Ring s'.nx s'.pv L := fun {L} hL hno =>
    hs (out_other hturn (ring_pv hturn) hL (fun w hw hm => hno w hw ((hmem w).1 hm))) (fun hm => hno x hm hxt)
  have hke : x ∉ (K t).erase x := fun hm => ((h.kd t ht).mem_erase_iff.1 hm).1 rfl
  obtain ⟨r, hr⟩ := h.rk
  refine ⟨hoth h.rn (fun w hw hm => h.apart ht w hm (by simp [hw])), ⟨by rw [hn]; exact upd_same _ _ _, by rw [hv]; exact upd_same _ _ _⟩, fun c hc => ?_, fun c hc => ?_, fun c hc => ?_, fun w => ?_, fun c hc w => ?_, fun w hw c hc => ?_, ?_, fun c hc => ?_, r, fun w hw c hc => ?_⟩
  · by_cases hct : c = t
    · subst hct; rw [upd_same]; exact hs (out_erase (h.kn c hc) (h.kd c hc) hxt) hke
    · rw [upd_ne _ _ hct]; exact hoth (h.kn c hc) (h.apart2 hc ht hct)
  · rw [hch]
    by_cases hct : c = t
    · subst hct; rw [upd_same, upd_same]
    · rw [upd_ne _ _ hct, upd_ne _ _ hct]; exact h.ch c hc
  · rw [hdg]
    by_cases hct : c = t
    · subst hct; rw [upd_same, upd_same, List.length_erase_of_mem hxt, h.dg c hc]
    · rw [upd_ne _ _ hct, upd_ne _ _ hct]; exact h.dg c hc
  · have hRw := h.mR w
    rw [List.append_nil] at hRw
    by_cases hw : w = x
    · subst hw; simp [upd_same, hx.1]
    · rw [upd_ne _ _ hw, ← hRw]; simp [hw]
  · by_cases hct : c = t
    · subst hct
      rw [upd_same, (h.kd c hc).mem_erase_iff, h.mK c hc]
      by_cases hw : w = x
      · subst hw; simp [upd_same]
      · rw [upd_ne _ _ hw]; simp [hw]
    · rw [upd_ne _ _ hct, h.mK c hc]
      by_cases hw : w = x
      · subst hw
        rw [upd_same, hx.2]
        simp only [Option.some.injEq, reduceCtorEq, and_false, iff_false, not_and]
        exact fun _ e => hct e.symm
      · rw [upd_ne _ _ hw]
  · by_cases hwx : w = x
    · subst hwx; rw [upd_same] at hc; cases hc
    · rw [upd_ne _ _ hwx] at hc; exact h.dm w hw c hc
  · exact List.nodup_append.2 ⟨hd, by simp, fun w hw y hy e => by
      rw [List.mem_singleton.1 hy] at e
      exact hxR (e ▸ hw)⟩
  · by_cases hct : c = t
    · subst hct; rw [upd_same]; exact (h.kd c hc).erase x
    · rw [upd_ne _ _ hct]; exact h.kd c hc
  · by_cases hwx : w = x
    · subst hwx; rw [upd_same] at hc; cases hc
    · rw [upd_ne _ _ hwx] at hc; exact hr w hw c hc
theorem rk_bound (r : Nat → Nat) (D : List Nat) : ∃ N, ∀ x ∈ D, r x ≤ N := by
  induction D with
  | nil => exact ⟨0, by simp⟩
  | cons a D ih =>
    obtain ⟨N, hN⟩ := ih
    refine ⟨max (r a) N, fun x hx => ?_⟩
    rcases List.mem_cons.1 hx with rfl | hx
    · omega
    · have := hN x hx; omega
/-- the least of the roots is the least of all -/
theorem Inv.least {s : St} {D R Q : List Nat} {K : Nat → List Nat} {P : Nat → Option Nat} (h : Inv s D R Q K P) (ho : ∀ x ∈ D, ∀ b, P x = some b → s.pr b ≤ s.pr x) {v : Int} (hm : ∀ x ∈ R ++ Q, v ≤ s.pr x) : ∀ x ∈ D, v ≤ s.pr x := by
  obtain ⟨r, hr⟩ := h.rk
  obtain ⟨N, hN⟩ := rk_bound r D
  suffices ∀ (n : Nat) (x : Nat), x ∈ D → N - r x = n → v ≤ s.pr x from fun x hx => this _ x hx rfl
  intro n
  induction n using Nat.strongRecOn with
  | _ n ih =>
    intro x hx hn
    cases hp : P x with
    | none => exact hm x ((h.mR x).2 ⟨hx, hp⟩)
    | some b =>
      have hb := h.dm x hx b hp
      have h1 := hr x hx b hp
      have h2 := hN b hb
      have h3 := ih (N - r b) (by omega) b hb rfl
      have h4 := ho x hx b hp
      omega
theorem Inv.alone' {s : St} {D R : List Nat} {x t : Nat} {K : Nat → List Nat} {P : Nat → Option Nat} (h : Inv s D R [] K P) (hx : x ∈ R) (ht : t ∈ R) (hne : t ≠ x) : ∃ R', Inv (solo (out s x) x) D R' [x] K P ∧ R.Perm (x :: R') ∧ t ∈ R' := by
  obtain ⟨l, h1, hp⟩ := h.first hx
  have htl : t ∈ l := by
    rcases List.mem_cons.1 (hp.mem_iff.1 ht) with e | e
    · exact absurd e hne
    · exact e
  cases l with
  | nil => cases htl
  | cons y l => exact ⟨y :: l, h1.alone, hp, htl⟩
/-- x put under t -/
def linkS (s : St) (t x : Nat) : St :=
  match s.ch t with
  | none => { s with ch := upd s.ch t (some x), pa := upd s.pa x (some t), ma := upd s.ma x false, dg := upd s.dg t (s.dg t + 1) }
  | some c => { merge s c x with ch := upd s.ch t (some (if s.pr c < s.pr x then c else x)), pa := upd s.pa x (some t), ma := upd s.ma x false, dg := upd s.dg t (s.dg t + 1) }
theorem Inv.linked {s : St} {D R : List Nat} {x t : Nat} {K : Nat → List Nat} {P : Nat → Option Nat} (h : Inv s D R [x] K P) (ht : t ∈ R) : ∃ K', Inv (linkS s t x) D R [] K' (upd P x (some t)) := by
  have htD := ((h.mR t).1 (by simp [ht])).1
  have hxR : x ∈ D ∧ P x = none := (h.mR x).1 (by simp)
  have hch := h.ch t htD
  unfold linkS
  cases hk : K t with
  | nil =>
    rw [hk] at hch
    rw [hch]
    refine ⟨_, h.link (L := [x]) ht (by rw [hk]) h.qn (fun l hl _ => hl) rfl rfl⟩
  | cons c l =>
    rw [hk] at hch
    have hch' : s.ch t = some c := hch
    rw [hch']
    have hkr : Ring s.nx s.pv (c :: l) := by have := h.kn t htD; rwa [hk] at this
    have hxk : x ∉ c :: l := fun hm => by
      have := ((h.mK t htD x).1 (by rw [hk]; exact hm)).2
      rw [hxR.2] at this; cases this
    have hnd : (c :: l ++ x :: []).Nodup := List.nodup_append.2 ⟨by have := h.kd t htD; rwa [hk] at this, by simp, fun a ha b hb e => hxk (by rw [List.mem_singleton.1 hb] at e; exact e ▸ ha)⟩
    have hsp := splice_ring hkr h.qn hnd
    have hoth : ∀ L, Ring s.nx s.pv L → (∀ w ∈ L, w ∉ x :: K t) → Ring (spN s c x) (spP s c x) L := fun L hL hn => splice_other hkr h.qn hL (fun w hw => by
      have := hn w hw
      rw [hk, List.mem_cons, not_or] at this
      exact ⟨this.2, by simpa using this.1⟩)
    simp only
    by_cases hp : s.pr c < s.pr x
    · rw [if_pos hp]
      refine ⟨_, h.link (L := c :: x :: l) ht (by rw [hk]; exact List.Perm.swap x c l) (show Ring (spN s c x) (spP s c x) (c :: x :: l) by simpa using hsp) hoth rfl rfl⟩
    · rw [if_neg hp]
      refine ⟨_, h.link (L := x :: l ++ [c]) ht (by
        rw [hk]
        exact List.Perm.cons x (List.perm_append_comm (l₁ := l) (l₂ := [c]))) ?_ hoth rfl rfl⟩
      have : Ring (spN s c x) (spP s c x) ([c] ++ (x :: l)) := by simpa using hsp
      exact ring_turn this
/-- pointers to the parents, but for some nodes -/
def Agr (s : St) (P : Nat → Option Nat) (D E : List Nat) : Prop := ∀ x ∈ D, x ∉ E → s.pa x = P x
/-- no child is less than its parent, but for some nodes -/
def Ord (s : St) (P : Nat → Option Nat) (D E : List Nat) : Prop := ∀ x ∈ D, x ∉ E → ∀ b, P x = some b → s.pr b ≤ s.pr x
theorem linkS_pr (s : St) (t x : Nat) : (linkS s t x).pr = s.pr := by unfold linkS; split <;> rfl
theorem linkS_pa (s : St) (t x : Nat) : (linkS s t x).pa = upd s.pa x (some t) := by unfold linkS; split <;> rfl
theorem linkS_dg (s : St) (t x : Nat) : (linkS s t x).dg = upd s.dg t (s.dg t + 1) := by unfold linkS; split <;> rfl
/-- one step of the consolidation: of two roots the greater one is put under the other -/
theorem Inv.join {s : St} {D R : List Nat} {x t : Nat} {K : Nat → List Nat} {P : Nat → Option Nat} (h : Inv s D R [] K P) (ha : Agr s P D []) (ho : Ord s P D []) (hx : x ∈ R) (ht : t ∈ R) (hne : t ≠ x) (hle : s.pr t ≤ s.pr x) :
    ∃ R' K' P', Inv (linkS (solo (out s x) x) t x) D R' [] K' P' ∧ R.Perm (x :: R') ∧ t ∈ R' ∧ Agr (linkS (solo (out s x) x) t x) P' D [] ∧ Ord (linkS (solo (out s x) x) t x) P' D [] := by
  obtain ⟨R', h1, hp, ht'⟩ := h.alone' hx ht hne
  obtain ⟨K', h2⟩ := h1.linked ht'
  refine ⟨R', K', _, h2, hp, ht', fun w hw hn => ?_, fun w hw hn b hb => ?_⟩
  · rw [linkS_pa]
    show upd s.pa x (some t) w = upd P x (some t) w
    unfold upd
    split
    · rfl
    · exact ha w hw hn
  · rw [linkS_pr]
    show s.pr b ≤ s.pr w
    by_cases hwx : w = x
    · subst hwx
      rw [upd_same] at hb
      injection hb with hb
      exact hb ▸ hle
    · rw [upd_ne _ _ hwx] at hb
      exact ho w hw hn b hb
theorem out_self {s : St} {x : Nat} (h1 : s.nx x = x) (h2 : s.pv x = x) : out s x = s := by
  have e1 : outN s x = s.nx := by
    funext w
    unfold outN upd
    split
    · rename_i e; rw [e, h2, h1]
    · rfl
  have e2 : outP s x = s.pv := by
    funext w
    unfold outP upd
    split
    · rename_i e; rw [e, h1, h2]
    · rfl
  unfold out
  rw [e1, e2]
/-- x cut from its parent t -/
def cutS (s : St) (x t : Nat) : St :=
  { solo (out s x) x with ch := upd s.ch t (if s.ch t = some x then (if s.nx x = x then none else some (s.nx x)) else s.ch t), dg := upd s.dg t (s.dg t - 1), ma := upd s.ma x false }
theorem Inv.child_alone {s : St} {D R Q : List Nat} {x t : Nat} {K : Nat → List Nat} {P : Nat → Option Nat} (h : Inv s D R Q K P) (hx : x ∈ D) (hp : P x = some t) : (s.nx x = x → s.pv x = x) ∧ s.nx x ∈ K t ∧ s.pv x ∈ K t := by
  have ht := h.dm x hx t hp
  have hxk := (h.mK t ht x).2 ⟨hx, hp⟩
  obtain ⟨k1, k2, hk⟩ := List.append_of_mem hxk
  have hturn : Ring s.nx s.pv (x :: (k2 ++ k1)) := by
    have := h.kn t ht
    rw [hk] at this
    exact ring_turn this
  have hnd : (x :: (k2 ++ k1)).Nodup := by
    have := h.kd t ht
    rw [hk] at this
    exact (List.Perm.nodup_iff (List.perm_append_comm (l₁ := k1) (l₂ := x :: k2))).1 this
  have hmem : ∀ w, w ∈ x :: (k2 ++ k1) → w ∈ K t := fun w hw => by rw [hk]; simp at hw ⊢; rcases hw with h | h | h <;> simp [h]
  refine ⟨fun e => ?_, hmem _ (ring_nx hturn).2, hmem _ (ring_pv hturn)⟩
  have := (ring_one hturn hnd).1 e
  rw [this] at hturn
  exact hturn.2
theorem Inv.cutted {s : St} {D R : List Nat} {x t : Nat} {K : Nat → List Nat} {P : Nat → Option Nat} (h : Inv s D R [] K P) (hx : x ∈ D) (hp : P x = some t) : ∃ K', Inv (cutS s x t) D R [x] K' (upd P x none) := by
  have ht := h.dm x hx t hp
  have hxk := (h.mK t ht x).2 ⟨hx, hp⟩
  refine ⟨_, h.cut ht hxk rfl rfl ?_ rfl⟩
  show upd s.ch t _ = upd s.ch t _
  congr 1
  rw [h.ch t ht]
  have hnd := h.kd t ht
  have hr := h.kn t ht
  cases hk : K t with
  | nil => rw [hk] at hxk; cases hxk
  | cons c l =>
    rw [hk] at hnd hr
    by_cases hc : c = x
    · subst hc
      rw [List.erase_cons_head]
      simp only [List.head?_cons, if_true]
      cases l with
      | nil => rw [if_pos hr.1]; rfl
      | cons y l =>
        rw [if_neg (fun e => by have := (ring_one hr hnd).1 e; cases this), hr.1]
        rfl
    · rw [List.erase_cons_tail (by simpa using hc)]
      simp only [List.head?_cons, Option.some.injEq, hc, if_false]
/-- the node cut goes to the roots, behind m -/
theorem Inv.cutMerge {s : St} {D R : List Nat} {x t m : Nat} {K : Nat → List Nat} {P : Nat → Option Nat} (h : Inv s D R [] K P) (hx : x ∈ D) (hp : P x = some t) (hm : m ∈ R) : ∃ R' K', Inv (Fh.merge (cutS s x t) m x) D R' [] K' (upd P x none) ∧ R'.Perm (x :: R) := by
  obtain ⟨K', h1⟩ := h.cutted hx hp
  obtain ⟨l, h2, hpm⟩ := h1.first hm
  refine ⟨_, K', h2.merge, ?_⟩
  have e1 : (m :: [] ++ x :: l).Perm (x :: m :: l) := List.Perm.swap x m l
  exact e1.trans (List.Perm.cons x hpm.symm)
/-- the first of two that is not greater -/
def lesser (s : St) (a b : Nat) : Nat := if s.pr a < s.pr b then a else b
theorem lesser_le (s : St) (a b : Nat) : s.pr (lesser s a b) ≤ s.pr a ∧ s.pr (lesser s a b) ≤ s.pr b := by
  unfold lesser
  split <;> omega
theorem lesser_or (s : St) (a b : Nat) : lesser s a b = a ∨ lesser s a b = b := by
  unfold lesser
  split
  · exact .inl rfl
  · exact .inr rfl
/-- the consolidation under way: T by degrees, U not yet visited, m the least so far, c in hand -/
structure Con (s : St) (D R : List Nat) (T : List (Option Nat)) (U : List Nat) (m : Nat) (c : Option Nat) : Prop where
  iv : ∃ K P, Inv s D R [] K P ∧ Agr s P D [] ∧ Ord s P D []
  tr : ∀ d b, T[d]? = some (some b) → b ∈ R ∧ s.dg b = d ∧ b ∉ U ∧ c ≠ some b
  ur : ∀ u ∈ U, u ∈ R
  un : U.Nodup
  cr : ∀ x, c = some x → x ∈ R ∧ x ∉ U
  mr : m ∈ R ∨ ∃ x, c = some x ∧ s.pr x ≤ s.pr m
  mn : ∀ x ∈ R, x ∈ U ∨ c = some x ∨ s.pr m ≤ s.pr x
def cnt (T : List (Option Nat)) : Nat := (T.filter Option.isSome).length
theorem con_start {s : St} {D l : List Nat} {m : Nat} {K : Nat → List Nat} {P : Nat → Option Nat} (h : Inv s D (m :: l) [] K P) (ha : Agr s P D []) (ho : Ord s P D []) : Con s D (m :: l) [] (m :: l) m none :=
  ⟨⟨K, P, h, ha, ho⟩, fun d b hb => by simp at hb, fun u hu => hu, by have := h.rd; rwa [List.append_nil] at this, fun x hx => (by cases hx), .inl (by simp), fun x hx => .inl hx⟩
theorem con_next {s : St} {D R U : List Nat} {T : List (Option Nat)} {u m : Nat} (h : Con s D R T (u :: U) m none) : Con s D R T U m (some u) :=
  ⟨h.iv, fun d b hb => by
    obtain ⟨h1, h2, h3, _⟩ := h.tr d b hb
    rw [List.mem_cons, not_or] at h3
    exact ⟨h1, h2, h3.2, fun e => h3.1 (by injection e with e; exact e.symm)⟩,
   fun w hw => h.ur w (List.mem_cons_of_mem _ hw), (List.nodup_cons.1 h.un).2, fun x hx => by
    injection hx with hx
    subst hx
    exact ⟨h.ur u (by simp), (List.nodup_cons.1 h.un).1⟩, (by
    rcases h.mr with h1 | ⟨x, h1, _⟩
    · exact .inl h1
    · cases h1), fun x hx => by
    rcases h.mn x hx with h1 | h1 | h1
    · rcases List.mem_cons.1 h1 with rfl | h1
      · exact .inr (.inl rfl)
      · exact .inl h1
    · cases h1
    · exact .inr (.inr h1)⟩
theorem con_grow {s : St} {D R U : List Nat} {T : List (Option Nat)} {m : Nat} {c : Option Nat} (h : Con s D R T U m c) : Con s D R (T ++ [none]) U m c :=
  ⟨h.iv, fun d b hb => h.tr d b (by
    rcases Nat.lt_or_ge d T.length with hd | hd
    · rwa [List.getElem?_append_left hd] at hb
    · rw [List.getElem?_append_right hd] at hb
      cases hk : d - T.length with
      | zero => rw [hk] at hb; simp at hb
      | succ k => rw [hk] at hb; simp at hb), h.ur, h.un, h.cr, h.mr, h.mn⟩
theorem cnt_grow (T : List (Option Nat)) : cnt (T ++ [none]) = cnt T := by simp [cnt]
theorem cnt_set {T : List (Option Nat)} : ∀ {d o : Nat}, T[d]? = some (some o) → cnt (T.set d none) + 1 = cnt T := by
  induction T with
  | nil => intro d o h; simp at h
  | cons a T ih =>
    intro d o h
    cases d with
    | zero =>
      simp at h
      subst h
      simp [cnt]
    | succ d =>
      have := ih (d := d) (o := o) (by simpa using h)
      unfold cnt at this ⊢
      cases a <;> simp at this ⊢ <;> omega
/-- two roots of one degree -/
theorem con_join {s : St} {D R U : List Nat} {T : List (Option Nat)} {m x o : Nat} (h : Con s D R T U m (some x)) (ho : T[s.dg x]? = some (some o)) :
    let t := if s.pr o < s.pr x then o else x
    let y := if s.pr o < s.pr x then x else o
    t ≠ y ∧ ∃ R', Con (linkS (solo (out s y) y) t y) D R' (T.set (s.dg x) none) U m (some t) := by
  intro t y
  obtain ⟨K, P, hi, ha, hod⟩ := h.iv
  obtain ⟨o1, o2, o3, o4⟩ := h.tr _ _ ho
  obtain ⟨c1, c2⟩ := h.cr x rfl
  have hox : o ≠ x := fun e => o4 (by rw [e])
  have hty : t ≠ y ∧ t ∈ R ∧ y ∈ R ∧ t ∉ U ∧ y ∉ U ∧ s.pr t ≤ s.pr y ∧ s.pr t ≤ s.pr x ∧ (t = o ∨ t = x) ∧ (y = o ∨ y = x) ∧ (t = o → y = x) ∧ (y = o → t = x) := by
    show (if s.pr o < s.pr x then o else x) ≠ (if s.pr o < s.pr x then x else o) ∧ _
    by_cases hp : s.pr o < s.pr x
    · have e1 : t = o := if_pos hp
      have e2 : y = x := if_pos hp
      rw [e1, e2, if_pos hp, if_pos hp]
      exact ⟨hox, o1, c1, o3, c2, Int.le_of_lt hp, Int.le_of_lt hp, .inl rfl, .inr rfl, fun _ => rfl, fun e => absurd e.symm hox⟩
    · have e1 : t = x := if_neg hp
      have e2 : y = o := if_neg hp
      rw [e1, e2, if_neg hp, if_neg hp]
      exact ⟨hox.symm, c1, o1, c2, o3, by omega, Int.le_refl _, .inr rfl, .inl rfl, fun e => absurd e.symm hox, fun _ => rfl⟩
  obtain ⟨q1, q2, q3, q4, q5, q6, q7, q8, q9, q10, q11⟩ := hty
  obtain ⟨R', K', P', hi', hpm, ht', ha', ho'⟩ := hi.join ha hod q3 q2 q1 q6
  have hR : ∀ w, w ∈ R' → w ∈ R := fun w hw => hpm.mem_iff.2 (List.mem_cons_of_mem _ hw)
  have hR2 : ∀ w, w ∈ R → w ≠ y → w ∈ R' := fun w hw hne => by
    rcases List.mem_cons.1 (hpm.mem_iff.1 hw) with e | e
    · exact absurd e hne
    · exact e
  have hyR : y ∉ R' := by
    have := hi.rd
    rw [List.append_nil] at this
    exact (List.nodup_cons.1 (hpm.nodup_iff.1 this)).1
  refine ⟨q1, R', ⟨K', P', hi', ha', ho'⟩, fun d b hb => ?_, fun u hu => hR2 u (h.ur u hu) (ne_mem hu q5), h.un, fun w hw => ?_, ?_, fun w hw => ?_⟩
  · have hdd : d ≠ s.dg x := fun e => by
      subst e
      rw [List.getElem?_set_self (List.getElem?_eq_some_iff.1 ho).1] at hb
      cases hb
    rw [List.getElem?_set_ne (Ne.symm hdd)] at hb
    obtain ⟨b1, b2, b3, b4⟩ := h.tr d b hb
    have hbo : b ≠ o := fun e => hdd (by rw [← b2, e, o2])
    have hbx : b ≠ x := fun e => b4 (by rw [e])
    have hbt : b ≠ t := fun e => by rcases q8 with e1 | e1 <;> rw [e1] at e <;> contradiction
    refine ⟨hR2 b b1 (fun e => by rcases q9 with e1 | e1 <;> rw [e1] at e <;> contradiction), ?_, b3, fun e => hbt (by injection e with e; exact e.symm)⟩
    rw [linkS_dg, upd_ne _ _ hbt]
    exact b2
  · injection hw with hw
    subst hw
    exact ⟨ht', q4⟩
  · rw [linkS_pr]
    show m ∈ R' ∨ ∃ w, some t = some w ∧ s.pr w ≤ s.pr m
    rcases h.mr with h1 | ⟨w, h1, h2⟩
    · by_cases hmy : m = y
      · exact .inr ⟨t, rfl, by rw [hmy]; exact q6⟩
      · exact .inl (hR2 m h1 hmy)
    · injection h1 with h1
      subst h1
      exact .inr ⟨t, rfl, by omega⟩
  · rw [linkS_pr]
    show w ∈ U ∨ some t = some w ∨ s.pr m ≤ s.pr w
    rcases h.mn w (hR w hw) with h1 | h1 | h1
    · exact .inl h1
    · injection h1 with h1
      subst h1
      refine .inr (.inl ?_)
      rcases q9 with e | e
      · rw [q11 e]
      · exact absurd (e ▸ hw) hyR
    · exact .inr (.inr h1)
/-- a root finds its place -/
theorem con_place {s : St} {D R U : List Nat} {T : List (Option Nat)} {m x : Nat} (h : Con s D R T U m (some x)) (hd : s.dg x < T.length) : Con s D R (T.set (s.dg x) (some x)) U (if s.pr x ≤ s.pr m then x else m) none := by
  obtain ⟨c1, c2⟩ := h.cr x rfl
  refine ⟨h.iv, fun d b hb => ?_, h.ur, h.un, fun w hw => (by cases hw), ?_, fun w hw => ?_⟩
  · by_cases hdd : d = s.dg x
    · subst hdd
      rw [List.getElem?_set_self hd] at hb
      simp at hb
      subst hb
      exact ⟨c1, rfl, c2, by simp⟩
    · rw [List.getElem?_set_ne (Ne.symm hdd)] at hb
      obtain ⟨b1, b2, b3, _⟩ := h.tr d b hb
      exact ⟨b1, b2, b3, by simp⟩
  · by_cases hp : s.pr x ≤ s.pr m
    · rw [if_pos hp]; exact .inl c1
    · rw [if_neg hp]
      rcases h.mr with h1 | ⟨w, h1, h2⟩
      · exact .inl h1
      · injection h1 with h1
        subst h1
        exact absurd h2 hp
  · rcases h.mn w hw with h1 | h1 | h1
    · exact .inl h1
    · injection h1 with h1
      subst h1
      refine .inr (.inr ?_)
      split <;> omega
    · refine .inr (.inr ?_)
      split <;> omega
theorem con_end {s : St} {D R : List Nat} {T : List (Option Nat)} {m : Nat} (h : Con s D R T [] m none) : m ∈ R ∧ ∀ x ∈ R, s.pr m ≤ s.pr x := by
  refine ⟨?_, fun x hx => ?_⟩
  · rcases h.mr with h1 | ⟨w, h1, _⟩
    · exact h1
    · cases h1
  · rcases h.mn x hx with h1 | h1 | h1
    · cases h1
    · cases h1
    · exact h1
end Fh
end Go.Proofs.Ytmhackiiiehlmaa
