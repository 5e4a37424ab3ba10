/- AVL trees as plain data: trees with block numbers, paths in them, heights and balances, rotations. -/
import Derived.Test.YtidekgmpbcnfmaaRows
namespace Go.Proofs.Ytidekgmpbcnfmaa.Avm
set_option linter.unusedVariables false

inductive T where
  | nil : T
  | nd (b : Nat) (bal : Int) (l : T) (k v : Int) (r : T) : T

def T.blocks : T → List Nat
  | .nil => []
  | .nd b _ l _ _ r => b :: (l.blocks ++ r.blocks)
def T.toL : T → List (Int × Int)
  | .nil => []
  | .nd _ _ l k v r => l.toL ++ (k, v) :: r.toL
def T.h : T → Nat
  | .nil => 0
  | .nd _ _ l _ _ r => max l.h r.h + 1
def V : T → Prop
  | .nil => True
  | .nd _ bal l _ _ r => bal = (r.h : Int) - (l.h : Int) ∧ -1 ≤ bal ∧ bal ≤ 1 ∧ V l ∧ V r

def Srt (l : List (Int × Int)) : Prop := l.Pairwise fun a b => a.1 < b.1
/-- a node of a path: d says whether the path goes right; sib is the other side -/
structure Fm where
  b : Nat
  bal : Int
  d : Bool
  sib : T
  k : Int
  v : Int

def Fm.put (f : Fm) (t : T) : T := if f.d then .nd f.b f.bal f.sib f.k f.v t else .nd f.b f.bal t f.k f.v f.sib
def plug : List Fm → T → T
  | [], t => t
  | f :: fs, t => f.put (plug fs t)
def lefts : List Fm → List (Int × Int)
  | [] => []
  | f :: fs => (if f.d then f.sib.toL ++ [(f.k, f.v)] else []) ++ lefts fs
def rights : List Fm → List (Int × Int)
  | [] => []
  | f :: fs => rights fs ++ (if f.d then [] else (f.k, f.v) :: f.sib.toL)
def cblocks : List Fm → List Nat
  | [] => []
  | f :: fs => f.b :: (f.sib.blocks ++ cblocks fs)

theorem put_toL (f : Fm) (t : T) : (f.put t).toL = (if f.d then f.sib.toL ++ [(f.k, f.v)] else []) ++ t.toL ++ (if f.d then [] else (f.k, f.v) :: f.sib.toL) := by
  unfold Fm.put
  cases f.d <;> simp [T.toL]
theorem toL_plug (fs : List Fm) (t : T) : (plug fs t).toL = lefts fs ++ t.toL ++ rights fs := by
  induction fs with
  | nil => simp [plug, lefts, rights]
  | cons f fs ih => simp only [plug, put_toL, ih, lefts, rights, List.append_assoc]
theorem plug_append (fs gs : List Fm) (t : T) : plug (fs ++ gs) t = plug fs (plug gs t) := by
  induction fs with
  | nil => rfl
  | cons f fs ih => simp only [List.cons_append, plug, ih]
theorem lefts_append (fs gs : List Fm) : lefts (fs ++ gs) = lefts fs ++ lefts gs := by
  induction fs with
  | nil => rfl
  | cons f fs ih => simp only [List.cons_append, lefts, ih, List.append_assoc]
theorem rights_append (fs gs : List Fm) : rights (fs ++ gs) = rights gs ++ rights fs := by
  induction fs with
  | nil => simp [rights]
  | cons f fs ih => simp only [List.cons_append, rights, ih, List.append_assoc]
theorem cblocks_append (fs gs : List Fm) : cblocks (fs ++ gs) = cblocks fs ++ cblocks gs := by
  induction fs with
  | nil => rfl
  | cons f fs ih => simp only [List.cons_append, cblocks, ih, List.append_assoc]
theorem put_blocks (f : Fm) (t : T) : (f.put t).blocks.Perm (f.b :: (f.sib.blocks ++ t.blocks)) := by
  unfold Fm.put
  cases f.d
  · simp only [Bool.false_eq_true, if_false, T.blocks]
    exact (List.perm_append_comm).cons _
  · simp only [if_true, T.blocks]
    exact List.Perm.refl _
theorem plug_blocks (fs : List Fm) (t : T) : (plug fs t).blocks.Perm (cblocks fs ++ t.blocks) := by
  induction fs with
  | nil => exact List.Perm.refl _
  | cons f fs ih =>
    refine (put_blocks f _).trans ?_
    simp only [cblocks, List.cons_append, List.append_assoc]
    exact (ih.append_left _).cons _

/-- the height of a path whose hole has height h -/
def hgt : List Fm → Nat → Nat
  | [], h => h
  | f :: fs, h => max f.sib.h (hgt fs h) + 1
def VC : List Fm → Nat → Prop
  | [], _ => True
  | f :: fs, h => f.bal = (if f.d then (hgt fs h : Int) - (f.sib.h : Int) else (f.sib.h : Int) - (hgt fs h : Int)) ∧ -1 ≤ f.bal ∧ f.bal ≤ 1 ∧ V f.sib ∧ VC fs h
theorem put_h (f : Fm) (t : T) : (f.put t).h = max f.sib.h t.h + 1 := by
  unfold Fm.put
  cases f.d
  · simp only [Bool.false_eq_true, if_false, T.h]; omega
  · simp only [if_true, T.h]
theorem plug_h (fs : List Fm) (t : T) : (plug fs t).h = hgt fs t.h := by
  induction fs with
  | nil => rfl
  | cons f fs ih => simp only [plug, put_h, ih, hgt]
theorem V_put (f : Fm) (t : T) : V (f.put t) ↔ (f.bal = (if f.d then (t.h : Int) - (f.sib.h : Int) else (f.sib.h : Int) - (t.h : Int)) ∧ -1 ≤ f.bal ∧ f.bal ≤ 1 ∧ V f.sib ∧ V t) := by
  unfold Fm.put
  cases f.d
  · simp only [Bool.false_eq_true, if_false, V]
    constructor
    · rintro ⟨h1, h2, h3, h4, h5⟩; exact ⟨h1, h2, h3, h5, h4⟩
    · rintro ⟨h1, h2, h3, h4, h5⟩; exact ⟨h1, h2, h3, h5, h4⟩
  · simp only [if_true, V]
theorem V_plug (fs : List Fm) (t : T) : V (plug fs t) ↔ VC fs t.h ∧ V t := by
  induction fs with
  | nil => simp [plug, VC]
  | cons f fs ih =>
    rw [plug, V_put, ih, plug_h]
    simp only [VC]
    constructor
    · rintro ⟨h1, h2, h3, h4, h5, h6⟩; exact ⟨⟨h1, h2, h3, h4, h5⟩, h6⟩
    · rintro ⟨⟨h1, h2, h3, h4, h5⟩, h6⟩; exact ⟨h1, h2, h3, h4, h5, h6⟩
theorem hgt_append (fs gs : List Fm) (h : Nat) : hgt (fs ++ gs) h = hgt fs (hgt gs h) := by
  induction fs with
  | nil => rfl
  | cons f fs ih => simp only [List.cons_append, hgt, ih]
theorem VC_append (fs gs : List Fm) (h : Nat) : VC (fs ++ gs) h ↔ VC fs (hgt gs h) ∧ VC gs h := by
  induction fs with
  | nil => simp [VC]
  | cons f fs ih =>
    simp only [List.cons_append, VC, ih, hgt_append]
    constructor
    · rintro ⟨h1, h2, h3, h4, h5, h6⟩; exact ⟨⟨h1, h2, h3, h4, h5⟩, h6⟩
    · rintro ⟨⟨h1, h2, h3, h4, h5⟩, h6⟩; exact ⟨h1, h2, h3, h4, h5, h6⟩

def Fm.adj (f : Fm) : Fm := { f with bal := f.bal + if f.d then 1 else -1 }
theorem grow0 (gs : List Fm) (h : Nat) (hv : VC gs h) (h0 : ∀ f ∈ gs, f.bal = 0) : hgt (gs.map Fm.adj) (h + 1) = hgt gs h + 1 ∧ VC (gs.map Fm.adj) (h + 1) := by
  induction gs with
  | nil => exact ⟨rfl, trivial⟩
  | cons f gs ih =>
    obtain ⟨h1, h2, h3, h4, h5⟩ := hv
    obtain ⟨i1, i2⟩ := ih h5 fun g hg => h0 g (List.mem_cons_of_mem _ hg)
    have hz := h0 f List.mem_cons_self
    rw [hz] at h1
    have he : f.sib.h = hgt gs h := by
      cases hd : f.d <;> rw [hd] at h1 <;> simp at h1 <;> omega
    refine ⟨?_, ?_, ?_, ?_, h4, i2⟩
    · show max f.sib.h (hgt (gs.map Fm.adj) (h + 1)) + 1 = max f.sib.h (hgt gs h) + 1 + 1
      rw [i1]; omega
    · show f.bal + (if f.d then 1 else -1) = if f.d then ((hgt (gs.map Fm.adj) (h + 1) : Nat) : Int) - (f.sib.h : Int) else (f.sib.h : Int) - ((hgt (gs.map Fm.adj) (h + 1) : Nat) : Int)
      rw [i1, hz]
      cases f.d <;> simp <;> omega
    · show -1 ≤ f.bal + (if f.d then 1 else -1)
      rw [hz]; cases f.d <;> simp
    · show f.bal + (if f.d then 1 else -1) ≤ 1
      rw [hz]; cases f.d <;> simp
theorem cblocks_adj (gs : List Fm) : cblocks (gs.map Fm.adj) = cblocks gs := by
  induction gs with
  | nil => rfl
  | cons f gs ih => simp only [List.map_cons, cblocks, ih]; rfl
theorem lefts_adj (gs : List Fm) : lefts (gs.map Fm.adj) = lefts gs := by
  induction gs with
  | nil => rfl
  | cons f gs ih => simp only [List.map_cons, lefts, ih]; rfl
theorem rights_adj (gs : List Fm) : rights (gs.map Fm.adj) = rights gs := by
  induction gs with
  | nil => rfl
  | cons f gs ih => simp only [List.map_cons, rights, ih]; rfl

/-- the rotations of an insertion; dir: the heavy side -/
def insBal : Bool → T → T
  | true, .nd s _ a k v (.nd n nb c k2 v2 e) =>
    if nb = 1 then .nd n 0 (.nd s 0 a k v c) k2 v2 e
    else match c with
      | .nd m mb ml mk mv mr => .nd m 0 (.nd s (if mb = 1 then -1 else 0) a k v ml) mk mv (.nd n (if mb = 0 ∨ mb = 1 then 0 else 1) mr k2 v2 e)
      | .nil => .nil
  | false, .nd s _ (.nd n nb e k2 v2 c) k v a =>
    if nb = -1 then .nd n 0 e k2 v2 (.nd s 0 c k v a)
    else match c with
      | .nd m mb ml mk mv mr => .nd m 0 (.nd n (if mb = 0 ∨ mb = -1 then 0 else -1) e k2 v2 ml) mk mv (.nd s (if mb = -1 then 1 else 0) mr k v a)
      | .nil => .nil
  | _, t => t

theorem insBal_right (s : Nat) (sb : Int) (a : T) (k v : Int) (r : T) (hh : r.h = a.h + 2) (va : V a) (vr : V r) (hb : ∀ n nb c k2 v2 e, r = .nd n nb c k2 v2 e → nb ≠ 0) :
    V (insBal true (.nd s sb a k v r)) ∧ (insBal true (.nd s sb a k v r)).h = r.h ∧ (insBal true (.nd s sb a k v r)).toL = (T.nd s sb a k v r).toL ∧ (insBal true (.nd s sb a k v r)).blocks.Perm (T.nd s sb a k v r).blocks := by
  cases r with
  | nil => simp [T.h] at hh
  | nd n nb c k2 v2 e =>
    have hnb := hb _ _ _ _ _ _ rfl
    obtain ⟨h1, h2, h3, h4, h5⟩ := vr
    simp only [T.h] at hh
    by_cases h : nb = 1
    · subst h
      simp only [insBal, if_true]
      refine ⟨⟨?_, by omega, by omega, ⟨by omega, by omega, by omega, va, h4⟩, h5⟩, by simp only [T.h]; omega, by simp [T.toL], ?_⟩
      · simp only [T.h]; omega
      · simp only [T.blocks, List.cons_append, List.append_assoc]
        exact (List.Perm.swap _ _ _).trans ((List.perm_middle.symm).cons _)
    · have h6 : nb = -1 := by omega
      subst h6
      cases c with
      | nil => simp only [T.h] at h1; omega
      | nd m mb ml mk mv mr =>
        obtain ⟨g1, g2, g3, g4, g5⟩ := h4
        simp only [insBal]
        rw [if_neg (by decide)]
        simp only [T.h] at h1 hh
        refine ⟨⟨?_, by omega, by omega, ⟨?_, ?_, ?_, va, g4⟩, ⟨?_, ?_, ?_, g5, h5⟩⟩, ?_, by simp [T.toL], ?_⟩
        · simp only [T.h]; omega
        · split <;> omega
        · split <;> omega
        · split <;> omega
        · split <;> omega
        · split <;> omega
        · split <;> omega
        · simp only [T.h]; omega
        · simp only [T.blocks, List.cons_append, List.append_assoc]
          have e1 : (m :: s :: (a.blocks ++ (ml.blocks ++ n :: (mr.blocks ++ e.blocks)))).Perm (s :: m :: (a.blocks ++ (ml.blocks ++ n :: (mr.blocks ++ e.blocks)))) := List.Perm.swap _ _ _
          refine e1.trans (List.Perm.cons _ ?_)
          have e2 : (a.blocks ++ (ml.blocks ++ n :: (mr.blocks ++ e.blocks))).Perm (a.blocks ++ n :: (ml.blocks ++ (mr.blocks ++ e.blocks))) := (List.perm_middle).append_left _
          refine (e2.cons m).trans ?_
          have e3 : (m :: (a.blocks ++ n :: (ml.blocks ++ (mr.blocks ++ e.blocks)))).Perm (a.blocks ++ m :: n :: (ml.blocks ++ (mr.blocks ++ e.blocks))) := List.perm_middle.symm
          exact e3.trans ((List.Perm.swap _ _ _).append_left _)

theorem insBal_left (s : Nat) (sb : Int) (a : T) (k v : Int) (r : T) (hh : r.h = a.h + 2) (va : V a) (vr : V r) (hb : ∀ n nb c k2 v2 e, r = .nd n nb c k2 v2 e → nb ≠ 0) :
    V (insBal false (.nd s sb r k v a)) ∧ (insBal false (.nd s sb r k v a)).h = r.h ∧ (insBal false (.nd s sb r k v a)).toL = (T.nd s sb r k v a).toL ∧ (insBal false (.nd s sb r k v a)).blocks.Perm (T.nd s sb r k v a).blocks := by
  cases r with
  | nil => simp [T.h] at hh
  | nd n nb e k2 v2 c =>
    have hnb := hb _ _ _ _ _ _ rfl
    obtain ⟨h1, h2, h3, h5, h4⟩ := vr
    simp only [T.h] at hh
    by_cases h : nb = -1
    · subst h
      simp only [insBal, if_true]
      refine ⟨⟨?_, by omega, by omega, h5, ⟨by omega, by omega, by omega, h4, va⟩⟩, by simp only [T.h]; omega, by simp [T.toL], ?_⟩
      · simp only [T.h]; omega
      · simp only [T.blocks, List.cons_append, List.append_assoc]
        have e1 : (n :: (e.blocks ++ s :: (c.blocks ++ a.blocks))).Perm (n :: s :: (e.blocks ++ (c.blocks ++ a.blocks))) := (List.perm_middle).cons _
        exact e1.trans (List.Perm.swap _ _ _)
    · have h6 : nb = 1 := by omega
      subst h6
      cases c with
      | nil => simp only [T.h] at h1; omega
      | nd m mb ml mk mv mr =>
        obtain ⟨g1, g2, g3, g4, g5⟩ := h4
        simp only [insBal]
        rw [if_neg (by decide)]
        simp only [T.h] at h1 hh
        refine ⟨⟨?_, by omega, by omega, ⟨?_, ?_, ?_, h5, g4⟩, ⟨?_, ?_, ?_, g5, va⟩⟩, ?_, by simp [T.toL], ?_⟩
        · simp only [T.h]; omega
        · split <;> omega
        · split <;> omega
        · split <;> omega
        · split <;> omega
        · split <;> omega
        · split <;> omega
        · simp only [T.h]; omega
        · simp only [T.blocks, List.cons_append, List.append_assoc]
          have e1 : (m :: n :: (e.blocks ++ (ml.blocks ++ s :: (mr.blocks ++ a.blocks)))).Perm (m :: n :: (e.blocks ++ s :: (ml.blocks ++ (mr.blocks ++ a.blocks)))) := (((List.perm_middle).append_left _).cons _).cons _
          have e2 : (m :: n :: (e.blocks ++ s :: (ml.blocks ++ (mr.blocks ++ a.blocks)))).Perm (m :: n :: s :: (e.blocks ++ (ml.blocks ++ (mr.blocks ++ a.blocks)))) := ((List.perm_middle).cons _).cons _
          refine (e1.trans e2).trans ?_
          have e3 : (m :: n :: s :: (e.blocks ++ (ml.blocks ++ (mr.blocks ++ a.blocks)))).Perm (s :: n :: m :: (e.blocks ++ (ml.blocks ++ (mr.blocks ++ a.blocks)))) :=
            ((List.Perm.swap s n _).cons m).trans ((List.Perm.swap s m _).trans ((List.Perm.swap n m _).cons s))
          exact e3.trans (((List.perm_middle.symm).cons n).cons s)

end Go.Proofs.Ytidekgmpbcnfmaa.Avm
