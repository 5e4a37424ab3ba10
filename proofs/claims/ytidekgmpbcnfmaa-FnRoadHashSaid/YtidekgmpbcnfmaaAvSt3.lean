/- The state of an insertion into an AVL tree at its rotation. -/
import Derived.Test.YtidekgmpbcnfmaaAvSt2
namespace Go.Proofs.Ytidekgmpbcnfmaa
set_option linter.unusedVariables false
open Go.RowKit Avm

def lf (Q : Nat) (k v : Int) : T := .nd Q 0 .nil k v .nil
theorem lf_v (Q : Nat) (k v : Int) : V (lf Q k v) := ⟨rfl, by omega, by omega, trivial, trivial⟩
/-- the subtree behind the turning point, and its balance -/
theorem ins_R (rest : List Fm) (Q : Nat) (k v : Int) (hv : VC rest 0) (h0 : ∀ g ∈ rest, g.bal = 0) :
    V (plug (rest.map Fm.adj) (lf Q k v)) ∧ (plug (rest.map Fm.adj) (lf Q k v)).h = hgt rest 0 + 1 := by
  obtain ⟨h1, h2⟩ := grow0 rest 0 hv h0
  refine ⟨(V_plug _ _).2 ⟨h2, lf_v Q k v⟩, ?_⟩
  rw [plug_h]; exact h1
theorem ins_small (f : Fm) (rest : List Fm) (Q : Nat) (k v : Int) (hv : VC (f :: rest) 0) (h0 : ∀ g ∈ rest, g.bal = 0) (hs : ¬ (f.adj.bal < -1 ∨ 1 < f.adj.bal)) :
    V (plug ((f :: rest).map Fm.adj) (lf Q k v)) ∧ (plug ((f :: rest).map Fm.adj) (lf Q k v)).h = hgt (f :: rest) 0 + (if f.bal = 0 then 1 else 0) := by
  obtain ⟨h1, h2, h3, h4, h5⟩ := hv
  obtain ⟨r1, r2⟩ := ins_R rest Q k v h5 h0
  have hA : f.adj.bal = f.bal + if f.d then 1 else -1 := rfl
  rw [hA] at hs
  show V (f.adj.put (plug (rest.map Fm.adj) (lf Q k v))) ∧ (f.adj.put (plug (rest.map Fm.adj) (lf Q k v))).h = _
  rw [V_put, put_h, r2]
  show (f.bal + (if f.d then 1 else -1) = (if f.d then ((hgt rest 0 + 1 : Nat) : Int) - (f.sib.h : Int) else (f.sib.h : Int) - ((hgt rest 0 + 1 : Nat) : Int)) ∧ -1 ≤ f.bal + (if f.d then 1 else -1) ∧ f.bal + (if f.d then 1 else -1) ≤ 1 ∧ V f.sib ∧ _) ∧ max f.sib.h (hgt rest 0 + 1) + 1 = max f.sib.h (hgt rest 0) + 1 + _
  cases hd : f.d <;> rw [hd] at h1 hs <;> simp only [if_true, if_false, Bool.false_eq_true] at h1 hs ⊢
  · refine ⟨⟨by omega, by omega, by omega, h4, r1⟩, ?_⟩
    split <;> omega
  · refine ⟨⟨by omega, by omega, by omega, h4, r1⟩, ?_⟩
    split <;> omega
/-- where the balance is too great: a node follows, on the heavy side -/
theorem ins_big (f : Fm) (rest : List Fm) (hv : VC (f :: rest) 0) (hs : f.adj.bal < -1 ∨ 1 < f.adj.bal) :
    f.bal ≠ 0 ∧ f.adj.bal = (if f.d then 2 else -2) ∧ hgt rest 0 = f.sib.h + 1 ∧ ∃ g r2, rest = g :: r2 := by
  obtain ⟨h1, h2, h3, h4, h5⟩ := hv
  have hA : f.adj.bal = f.bal + if f.d then 1 else -1 := rfl
  rw [hA] at hs ⊢
  have hne : 0 < hgt rest 0 → ∃ g r2, rest = g :: r2 := fun h => by
    cases rest with
    | nil => simp [hgt] at h
    | cons g r2 => exact ⟨g, r2, rfl⟩
  cases hd : f.d <;> rw [hd] at h1 hs <;> simp only [if_true, if_false, Bool.false_eq_true] at h1 hs ⊢
  · exact ⟨by omega, by omega, by omega, hne (by omega)⟩
  · exact ⟨by omega, by omega, by omega, hne (by omega)⟩
theorem ins_turn (f g : Fm) (r2 : List Fm) (Q : Nat) (k v : Int) (hv : VC (f :: g :: r2) 0) (h0 : ∀ x ∈ g :: r2, x.bal = 0) (hs : f.adj.bal < -1 ∨ 1 < f.adj.bal) :
    V (insBal f.d (plug ((f :: g :: r2).map Fm.adj) (lf Q k v))) ∧ (insBal f.d (plug ((f :: g :: r2).map Fm.adj) (lf Q k v))).h = hgt (f :: g :: r2) 0 ∧
    (insBal f.d (plug ((f :: g :: r2).map Fm.adj) (lf Q k v))).toL = (plug ((f :: g :: r2).map Fm.adj) (lf Q k v)).toL ∧ (insBal f.d (plug ((f :: g :: r2).map Fm.adj) (lf Q k v))).blocks.Perm (plug ((f :: g :: r2).map Fm.adj) (lf Q k v)).blocks := by
  obtain ⟨b1, b2, b3, -⟩ := ins_big f (g :: r2) hv hs
  obtain ⟨h1, h2, h3, h4, h5⟩ := hv
  obtain ⟨r1, rh⟩ := ins_R (g :: r2) Q k v h5 h0
  have hgb : ∀ n nb c k2 v2 e, plug ((g :: r2).map Fm.adj) (lf Q k v) = .nd n nb c k2 v2 e → nb ≠ 0 := by
    intro n nb c k2 v2 e he
    have hz := h0 g (by simp)
    simp only [List.map_cons, plug, Fm.put, Fm.adj, hz] at he
    cases hgd : g.d <;> rw [hgd] at he <;> simp at he <;> omega
  have hT : plug ((f :: g :: r2).map Fm.adj) (lf Q k v) = if f.d then .nd f.b f.adj.bal f.sib f.k f.v (plug ((g :: r2).map Fm.adj) (lf Q k v)) else .nd f.b f.adj.bal (plug ((g :: r2).map Fm.adj) (lf Q k v)) f.k f.v f.sib := rfl
  have hhh : hgt (f :: g :: r2) 0 = (plug ((g :: r2).map Fm.adj) (lf Q k v)).h := by
    rw [rh]; show max f.sib.h (hgt (g :: r2) 0) + 1 = _; omega
  rw [hhh, hT]
  cases hd : f.d
  · simp only [Bool.false_eq_true, if_false]
    exact insBal_left f.b f.adj.bal f.sib f.k f.v _ (by omega) h4 r1 hgb
  · simp only [if_true]
    exact insBal_right f.b f.adj.bal f.sib f.k f.v _ (by omega) h4 r1 hgb

structure RotSt (w : World) (i D b0 n G : Nat) (pre : List Fm) (fb : Nat) (S : T) (wr : World) : Prop where
  ctx : AtC wr pre (some ⟨fb, 0, none⟩)
  sub : At wr S
  dum : Nd0 wr D (some ⟨b0, 0, none⟩)
  head : HdC wr i (some ⟨b0, 0, none⟩) (n + 1)
  fr : Fr [i, b0] [i, b0] w wr
  nd : (cblocks pre ++ S.blocks).Nodup
  off : ∀ b ∈ cblocks pre ++ S.blocks, b ≠ D ∧ b ≠ i
  root : top pre (some ⟨fb, 0, none⟩) = some ⟨b0, 0, none⟩
  own : ∀ g ∈ pre, g.b = b0 ∨ w.heap.size ≤ g.b
  ownS : ∃ c, ptr S = some ⟨c, 0, none⟩ ∧ (c = b0 ∨ w.heap.size ≤ c)
  fbm : fb ∈ S.blocks
  dn : D ≠ i ∧ w.heap.size ≤ D
  bas : G ≤ w.heap.size ∧ ∀ b ∈ cblocks pre ++ S.blocks, G ≤ b

theorem InsBot.rot {w : World} {i D b0 n G : Nat} {k v : Int} {pre : List Fm} {f : Fm} {rest : List Fm} {Q : Nat} {wr : World} (h : InsBot w i D b0 n G k v (pre ++ (f :: rest).map Fm.adj) Q wr) :
    RotSt w i D b0 n G pre f.b (plug ((f :: rest).map Fm.adj) (lf Q k v)) wr := by
  have hp : ptr (plug ((f :: rest).map Fm.adj) (lf Q k v)) = some ⟨f.b, 0, none⟩ := by rw [ptr_plug]; rfl
  obtain ⟨h1, h2⟩ := (AtC_append wr pre _ _).1 h.ctx
  have hbl : (cblocks pre ++ (plug ((f :: rest).map Fm.adj) (lf Q k v)).blocks).Perm (cblocks (pre ++ (f :: rest).map Fm.adj) ++ [Q]) := by
    rw [cblocks_append, List.append_assoc]
    exact (plug_blocks ((f :: rest).map Fm.adj) (lf Q k v)).append_left _
  refine ⟨h1, (at_plug wr _ _).2 ⟨h2, ⟨h.leaf, trivial, trivial⟩⟩, h.dum, h.head, h.fr, hbl.symm.nodup h.nd, fun b hb => h.off b (hbl.mem_iff.1 hb), ?_, fun g hg => h.own g (List.mem_append_left _ hg), ⟨f.b, hp, h.own f.adj (by simp)⟩, ?_, h.dn, ⟨h.bas.1, fun b hb => h.bas.2 b (hbl.mem_iff.1 hb)⟩⟩
  · have := h.root
    rw [top_append] at this
    exact this
  · have : f.b ∈ (f.adj.put (plug (rest.map Fm.adj) (lf Q k v))).blocks := (put_blocks _ _).symm.mem_iff.1 (by simp [Fm.adj])
    exact this

theorem RotSt.turn {w : World} {i D b0 n G : Nat} {pre : List Fm} {fb : Nat} {S S' : T} {F : List Nat} {wr w' : World} (h : RotSt w i D b0 n G pre fb S wr) (hf : Fr F F wr w') (hF : ∀ x ∈ F, x ∈ S.blocks ∧ (x = b0 ∨ w.heap.size ≤ x)) (hs : At w' S') (hp : S'.blocks.Perm S.blocks) (ho : ∃ c, ptr S' = some ⟨c, 0, none⟩ ∧ (c = b0 ∨ w.heap.size ≤ c)) :
    RotSt w i D b0 n G pre fb S' w' := by
  have hpp : (cblocks pre ++ S'.blocks).Perm (cblocks pre ++ S.blocks) := hp.append_left _
  have hnd := h.nd
  rw [List.nodup_append] at hnd
  refine ⟨AtC.fr h.ctx hf fun b hb e => hnd.2.2 b hb b (hF b e).1 rfl, hs, hf.blk h.dum fun e => (h.off _ (List.mem_append_right _ (hF _ e).1)).1 rfl, hf.blk h.head fun e => (h.off _ (List.mem_append_right _ (hF _ e).1)).2 rfl, ?_, hpp.symm.nodup h.nd, fun b hb => h.off b (hpp.mem_iff.1 hb), h.root, h.own, ho, hp.mem_iff.2 h.fbm, h.dn, ⟨h.bas.1, fun b hb => h.bas.2 b (hpp.mem_iff.1 hb)⟩⟩
  have h1 := h.fr
  refine ⟨hf.os.trans h1.os, hf.tape.trans h1.tape, hf.output.trans h1.output, Nat.le_trans h1.size hf.size, fun j hj hn => ?_, fun j hj => .inl hj⟩
  refine (hf.block j (Nat.lt_of_lt_of_le hj h1.size) fun e => ?_).trans (h1.block j hj hn)
  rcases (hF j e).2 with e2 | e2
  · exact hn (by rw [e2]; simp)
  · omega
theorem root_own {w : World} {b0 : Nat} : ∀ (fs : List Fm) (t : T), (∀ g ∈ fs, g.b = b0 ∨ w.heap.size ≤ g.b) → (∃ c, ptr t = some ⟨c, 0, none⟩ ∧ (c = b0 ∨ w.heap.size ≤ c)) → ∃ c, ptr (plug fs t) = some ⟨c, 0, none⟩ ∧ (c = b0 ∨ w.heap.size ≤ c)
  | [], t, _, h => h
  | f :: fs, t, ho, _ => ⟨f.b, by rw [ptr_plug]; rfl, ho f (by simp)⟩

/-- the end: no node above -/
theorem RotSt.done0 {w : World} {i D b0 n G : Nat} {S : T} {wr : World} {k v : Int} {L : List (Int × Int)} (h : RotSt w i D b0 n G [] b0 S wr) (hv : V S) (hP : Put k v L S.toL none) (hn : S.toL.length = n + 1) :
    InsPost w i b0 G k v L (.returned Value.nilIface) (wr.setCell ⟨i, 0, none⟩ (.pointer (ptr S))) := by
  have f1 : Fr [i] [i] wr (wr.setCell ⟨i, 0, none⟩ (.pointer (ptr S))) := Fr.store wr (F := [i]) (a := ⟨i, 0, none⟩) (by simp) _
  refine ⟨S, none, rfl, ⟨0, none, none, by rw [hn]; exact Blk.set h.head 0 (.pointer (ptr S))⟩, h.sub.fr f1 fun b hb e => (h.off b (by simpa [cblocks] using hb)).2 (List.mem_singleton.1 e), by simpa [cblocks] using h.nd, hv, hP, ?_, fun b hb => h.bas.2 b (by simpa [cblocks] using hb)⟩
  have h2 := h.fr.storeE (a := ⟨i, 0, none⟩) (.inl (by simp)) (.pointer (ptr S))
  obtain ⟨c, hc, ho⟩ := h.ownS
  refine ⟨h2.os, h2.tape, h2.output, h2.size, h2.block, fun x hx => ?_⟩
  rcases List.mem_cons.1 hx with rfl | hx
  · left; simp
  · have hxc : x = c := by
      cases S with
      | nil => cases hc
      | nd b _ _ _ _ _ =>
        injection hc with hc
        injection hc with hc
        rw [List.mem_singleton.1 hx, hc]
    rcases ho with e | e
    · left; rw [hxc, e]; simp
    · right; omega

/-- the end: the node above is linked -/
theorem RotSt.done1 {w : World} {i D b0 n G : Nat} {fb : Nat} {p' : List Fm} {g : Fm} {S : T} {wr : World} {k v : Int} {L : List (Int × Int)} (h : RotSt w i D b0 n G (p' ++ [g]) fb S wr) (hv : V (plug (p' ++ [g]) S)) (hP : Put k v L (plug (p' ++ [g]) S).toL none) (hn : (plug (p' ++ [g]) S).toL.length = n + 1) :
    InsPost w i b0 G k v L (.returned Value.nilIface) (wr.setCell ⟨g.b, if g.d then 2 else 1, none⟩ (.pointer (ptr S))) := by
  have f1 : Fr [g.b] [g.b] wr (wr.setCell ⟨g.b, if g.d then 2 else 1, none⟩ (.pointer (ptr S))) := Fr.store wr (F := [g.b]) (a := ⟨g.b, if g.d then 2 else 1, none⟩) (by simp) _
  have hm : g.b ∈ cblocks (p' ++ [g]) := by rw [cblocks_append]; simp [cblocks]
  have hoff := h.off g.b (List.mem_append_left _ hm)
  have hnd := h.nd
  have hndp := (plug_blocks (p' ++ [g]) S).symm.nodup h.nd
  rw [cblocks_append] at hnd
  simp only [cblocks, List.append_nil, List.nodup_append, List.nodup_cons, List.mem_append, List.mem_cons] at hnd
  obtain ⟨h1, h2, h3, -⟩ := (AtC_append wr p' [g] _).1 h.ctx
  have hng : Nd wr g.b g.bal (if g.d then ptr g.sib else some ⟨fb, 0, none⟩) (if g.d then some ⟨fb, 0, none⟩ else ptr g.sib) g.k g.v := h2
  have hng' : Nd (wr.setCell ⟨g.b, if g.d then 2 else 1, none⟩ (.pointer (ptr S))) g.b g.bal (if g.d then ptr g.sib else ptr S) (if g.d then ptr S else ptr g.sib) g.k g.v := by
    cases hd : g.d <;> rw [hd] at hng
    · exact Nd.setL hng _
    · exact Nd.setR hng _
  have hroot : ptr (plug (p' ++ [g]) S) = some ⟨b0, 0, none⟩ := by
    rw [ptr_plug]
    have := h.root
    rw [top_append] at this ⊢
    exact this
  have hctx : AtC (wr.setCell ⟨g.b, if g.d then 2 else 1, none⟩ (.pointer (ptr S))) (p' ++ [g]) (ptr S) := by
    refine (AtC_append _ p' [g] _).2 ⟨AtC.fr h1 f1 fun b hb e => ?_, hng', h3.fr f1 fun b hb e => ?_, trivial⟩
    · rw [List.mem_singleton] at e
      exact hnd.1.2.2 b hb g.b (.inl rfl) e
    · rw [List.mem_singleton] at e
      exact hnd.1.2.1.1 (by rw [← e]; exact hb)
  have hsub : At (wr.setCell ⟨g.b, if g.d then 2 else 1, none⟩ (.pointer (ptr S))) S := h.sub.fr f1 fun b hb e => by
    rw [List.mem_singleton] at e
    exact hnd.2.2 g.b (.inr (.inl rfl)) b hb e.symm
  have h5 := h.fr.storeE (a := ⟨g.b, if g.d then 2 else 1, none⟩) (by
    rcases h.own g (by simp) with e | e
    · left; show g.b ∈ _; rw [e]; simp
    · right; exact e) (.pointer (ptr S))
  refine ⟨plug (p' ++ [g]) S, none, rfl, ⟨0, none, none, by rw [hn, hroot]; exact Blk.other h.head (a := ⟨g.b, if g.d then 2 else 1, none⟩) (fun e => hoff.2 e.symm) _⟩, (at_plug _ _ _).2 ⟨hctx, hsub⟩, hndp, hv, hP, ?_, fun b hb => h.bas.2 b ((plug_blocks _ _).mem_iff.1 hb)⟩
  refine ⟨h5.os, h5.tape, h5.output, h5.size, h5.block, fun x hx => ?_⟩
  rcases List.mem_cons.1 hx with rfl | hx
  · left; simp
  · left
    cases hq : plug (p' ++ [g]) S with
    | nil => rw [hq] at hx; cases hx
    | nd b _ _ _ _ _ =>
      rw [hq] at hx hroot
      injection hroot with hc
      injection hc with hc
      rw [List.mem_singleton.1 hx, hc]; simp

/-- the list behind an insertion of a new key -/
theorem put_new (k v : Int) (fs : List Fm) (Q : Nat) (L : List (Int × Int)) (hL : lefts fs ++ T.nil.toL ++ rights fs = L) (h1 : ∀ x ∈ lefts fs, x.1 < k) (h2 : ∀ x ∈ rights fs, k < x.1) (l' : List (Int × Int)) (hl : l' = (plug fs (lf Q k v)).toL) : Put k v L l' none ∧ l'.length = L.length + 1 := by
  have e : l' = lefts fs ++ (k, v) :: rights fs := by rw [hl, toL_plug]; simp [lf, T.toL]
  have e2 : L = lefts fs ++ rights fs := by rw [← hL]; simp [T.toL]
  refine ⟨⟨lefts fs, rights fs, e, h1, h2, .inl ⟨e2, rfl⟩⟩, ?_⟩
  rw [e, e2]; simp; omega
theorem InsPost.drew {w : World} {i b0 G : Nat} {k v : Int} {L : List (Int × Int)} {e : Ending} {w' : World} (h : InsPost w i b0 G k v L e w') : InsPost w i b0 G k v L e w'.drew := by
  obtain ⟨t', o, h1, h2, h3, h4, h5, h6, h7, h8⟩ := h
  exact ⟨t', o, h1, h2, h3.below (Below.refl _ _).drew, h4, h5, h6, h7.drew, h8⟩
theorem at_blk {w : World} : ∀ {t : T} {b : Nat}, At w t → b ∈ t.blocks → ∃ cs, Blk w b 94 cs
  | .nil, _, _, h => by cases h
  | .nd c bal l k v r, b, ⟨h1, h2, h3⟩, hb => by
    rcases List.mem_cons.1 hb with rfl | hb
    · exact ⟨_, h1⟩
    · rcases List.mem_append.1 hb with hb | hb
      · exact at_blk h2 hb
      · exact at_blk h3 hb
theorem atc_first {w : World} {fs : List Fm} {x : Option Addr} {b0 : Nat} (h : AtC w fs x) (hne : fs ≠ []) (ht : top fs x = some ⟨b0, 0, none⟩) : (∃ cs, Blk w b0 94 cs) ∧ b0 ∈ cblocks fs := by
  cases fs with
  | nil => exact absurd rfl hne
  | cons f fs =>
    injection ht with ht
    injection ht with ht
    subst ht
    exact ⟨⟨_, h.1⟩, by simp [cblocks]⟩
def RotCut (w : World) (i D b0 n G : Nat) (k v : Int) (pre : List Fm) (fb : Nat) (LL : List (Int × Int)) (s7 : Value) (wx : World) : Prop :=
  ∃ (S : T) (c : Nat), s7 = .pointer (some ⟨c, 0, none⟩) ∧ ptr S = some ⟨c, 0, none⟩ ∧ RotSt w i D b0 n G pre fb S wx ∧ V (plug pre S) ∧ (plug pre S).toL = LL
theorem rot_pure {pre : List Fm} {f : Fm} {rest : List Fm} {S : T} {Q : Nat} {k v : Int} (hv : VC (pre ++ f :: rest) 0) (hp : pre ≠ [] → f.bal ≠ 0) (hS : V S) (hh : S.h = hgt (f :: rest) 0 + (if f.bal = 0 then 1 else 0)) (hl : S.toL = (plug ((f :: rest).map Fm.adj) (lf Q k v)).toL) :
    V (plug pre S) ∧ (plug pre S).toL = (plug (pre ++ f :: rest) (lf Q k v)).toL := by
  rw [VC_append] at hv
  refine ⟨(V_plug _ _).2 ⟨?_, hS⟩, ?_⟩
  · cases pre with
    | nil => trivial
    | cons x xs =>
      rw [if_neg (hp (by simp))] at hh
      rw [hh]; exact hv.1
  · rw [toL_plug, hl, plug_append, toL_plug, toL_plug pre, toL_plug (f :: rest), lefts_adj, rights_adj]
end Go.Proofs.Ytidekgmpbcnfmaa
