/- The states of a deletion: the way to the heir. -/
import Derived.Test.YtidekgmpbcnfmaaAvDelSt2
namespace Go.Proofs.Ytidekgmpbcnfmaa
set_option linter.unusedVariables false
open Go.RowKit Avm

/-- the stacks were stored to -/
theorem DSt.stk {w : World} {i : Nat} {B0 : List Nat} {n C D dn : Nat} {dv : Int} {fs : List Fm} {x : Option Addr} {bs : List Nat} {wr wr' : World} (h : DSt w i B0 n C D dn dv fs x bs wr) (hf : Fr [C, D] [] wr wr') (har : Ar wr' w.heap.size C D fs)
    (hdC : dn ≠ C) (hdD : dn ≠ D) (hC : i ≠ C) (hD : i ≠ D) : DSt w i B0 n C D dn dv fs x bs wr' := by
  have hl := h.ar.lt
  refine ⟨AtC.fr h.ctx hf (fun b hb e => ?_), h.head.fr hf (by simp; exact ⟨hC, hD⟩), rem_of0 h.fr hf (fun y hy => ?_), h.nd, h.old, har, hf.blk h.dne (by simp; exact ⟨hdC, hdD⟩), h.dnw⟩
  · obtain ⟨cs, hk⟩ := AtC.blk h.ctx hb
    have := h.ar.ne hk (by decide) (by decide)
    simp only [List.mem_cons, List.not_mem_nil, or_false] at e
    rcases e with e | e
    · exact this.1 e
    · exact this.2 e
  · simp only [List.mem_cons, List.not_mem_nil, or_false] at hy
    rcases hy with rfl | rfl
    · exact .inr hl.1.2
    · exact .inr hl.2.2

theorem Ar.junkCell {wr : World} {G C D : Nat} {fs : List Fm} (h : Ar wr G C D fs) (j : Nat) (hj : j < 64) (u : Value) : (wr.setCell ⟨C, j, none⟩ u).cell? ⟨C, j, none⟩ = some u := by
  obtain ⟨xs, ds, ho1, ho2, h3⟩ := h
  have l1 : xs.length = 64 := by have := ho1.1; omega
  have s1 := (ho1.stored j u).1
  have h5 := s1.cellAt j (by omega)
  rw [List.getElem?_set_self (by omega)] at h5
  exact h5
theorem low_list (p : List Fm) (f : Fm) (t : T) : lefts p ++ (f.low.put t).toL ++ rights p = lefts (p ++ [f]) ++ t.toL ++ rights (p ++ [f]) := by
  rw [lefts_append, rights_append, show (f.low.put t).toL = (if f.d then f.sib.toL ++ [(f.k, f.v)] else []) ++ t.toL ++ (if f.d then [] else (f.k, f.v) :: f.sib.toL) from put_toL f.low t]
  simp [lefts, rights]

/-- b' holds a copy of the node found; hs leads from its right child to t -/
structure HSt (w : World) (i : Nat) (B0 : List Nat) (n C D dn : Nat) (dv : Int) (p : List Fm) (x : Option Addr) (b' : Nat) (bal : Int) (l : T) (k v : Int) (hs : List Fm) (t : T) (wr : World) : Prop where
  d : DSt w i B0 n C D dn dv p x (b' :: (l.blocks ++ (cblocks hs ++ t.blocks))) wr
  nb : Nd wr b' bal (ptr l) (top hs (ptr t)) k v
  al : At wr l
  ah : AtC wr hs (ptr t)
  att : At wr t
  ar : Ar wr w.heap.size C D (p ++ ⟨b', bal, true, l, k, v⟩ :: hs)

section
variable {w : World} {i : Nat} {B0 : List Nat} {n C D dn : Nat} {dv : Int} {p : List Fm} {x : Option Addr} {b' : Nat} {bal : Int} {l : T} {k v : Int} {hs : List Fm} {t : T} {wr : World}

theorem HSt.next {wr' : World} (h : HSt w i B0 n C D dn dv p x b' bal l k v hs t wr) (hb : Below wr.heap.size wr wr') : HSt w i B0 n C D dn dv p x b' bal l k v hs t wr' :=
  ⟨h.d.next hb, h.nb.below hb, h.al.below hb, h.ah.below hb, h.att.below hb, h.ar.below hb⟩
theorem HSt.drew (h : HSt w i B0 n C D dn dv p x b' bal l k v hs t wr) : HSt w i B0 n C D dn dv p x b' bal l k v hs t wr.drew := h.next (Below.refl _ _).drew
/-- a block apart from those that hang -/
theorem HSt.fr {wr' : World} {F : List Nat} {x' : Option Addr} (h : HSt w i B0 n C D dn dv p x b' bal l k v hs t wr) (hf : Fr F [] wr wr') (h1 : ∀ b ∈ b' :: (l.blocks ++ (cblocks hs ++ t.blocks)), b ∉ F) (hF : ∀ y ∈ F, y ≠ C ∧ y ≠ D) (hd : DSt w i B0 n C D dn dv p x' (b' :: (l.blocks ++ (cblocks hs ++ t.blocks))) wr') :
    HSt w i B0 n C D dn dv p x' b' bal l k v hs t wr' := by
  refine ⟨hd, h.nb.fr hf (h1 b' (by simp)), h.al.fr hf (fun b hb => h1 b (by simp [hb])), h.ah.fr hf (fun b hb => h1 b (by simp [hb])), h.att.fr hf (fun b hb => h1 b (by simp [hb])), h.ar.fr hf hF⟩
theorem HSt.hne (h : HSt w i B0 n C D dn dv p x b' bal l k v hs t wr) : ∀ b ∈ b' :: (l.blocks ++ (cblocks hs ++ t.blocks)), ∃ cs, Blk wr b 94 cs := fun b hb => by
  rcases List.mem_cons.1 hb with rfl | hb
  · exact ⟨_, h.nb⟩
  · rcases List.mem_append.1 hb with hb | hb
    · exact at_blk h.al hb
    · rcases List.mem_append.1 hb with hb | hb
      · exact AtC.blk h.ah hb
      · exact at_blk h.att hb
theorem HSt.stk {wr' : World} (h : HSt w i B0 n C D dn dv p x b' bal l k v hs t wr) (hf : Fr [C, D] [] wr wr') {gs : List Fm} (har : Ar wr' w.heap.size C D (p ++ ⟨b', bal, true, l, k, v⟩ :: gs))
    (hdC : dn ≠ C) (hdD : dn ≠ D) (hC : i ≠ C) (hD : i ≠ D) : DSt w i B0 n C D dn dv p x (b' :: (l.blocks ++ (cblocks hs ++ t.blocks))) wr' ∧ (∀ b ∈ b' :: (l.blocks ++ (cblocks hs ++ t.blocks)), b ∉ [C, D]) := by
  refine ⟨h.d.stk hf har.take hdC hdD hC hD, fun b hb e => ?_⟩
  obtain ⟨cs, hk⟩ := h.hne b hb
  have := h.ar.ne hk (by decide) (by decide)
  simp only [List.mem_cons, List.not_mem_nil, or_false] at e
  rcases e with e | e
  · exact this.1 e
  · exact this.2 e

theorem two_fr (w : World) (C D j : Nat) (u v : Value) : Fr [C, D] [] w ((w.setCell ⟨D, j, none⟩ u).setCell ⟨C, j, none⟩ v) :=
  rem_of0 (rem_of0 (rem_refl0 _ w) (Fr.store w (F := [D]) (a := ⟨D, j, none⟩) (by simp) u) (fun x hx => .inl (by simp at hx; simp [hx]))) (Fr.store _ (F := [C]) (a := ⟨C, j, none⟩) (by simp) v) (fun x hx => .inl (by simp at hx; simp [hx]))

theorem HSt.start {b : Nat} {r : T} (h : DSt w i B0 n C D dn dv p x (T.nd b bal l k v r).blocks wr) (hl : At wr l) (hr : At wr r) (hn : Nd wr b' bal (ptr l) (ptr r) k v) (hb1 : ∀ y ∈ cblocks p, y < b') (hb2 : ∀ y ∈ (T.nd b bal l k v r).blocks, y < b') (hw : w.heap.size ≤ b') (hp : p.length < 64)
    (hdC : dn ≠ C) (hdD : dn ≠ D) (hC : i ≠ C) (hD : i ≠ D) :
    HSt w i B0 n C D dn dv p x b' bal l k v [] r ((wr.setCell ⟨D, p.length, none⟩ (.int .i64 1)).setCell ⟨C, p.length, none⟩ (.pointer (some ⟨b', 0, none⟩))) := by
  have hf := two_fr wr C D p.length (.int .i64 1) (.pointer (some ⟨b', 0, none⟩))
  have hpush := h.ar.push ⟨b', bal, true, l, k, v⟩ hp
  simp only [if_true] at hpush
  have hnd := h.nd
  have hold := h.old
  have hne : ∀ b ∈ b' :: (l.blocks ++ r.blocks), b ∉ [C, D] := fun b hb e => by
    have : ∃ cs, Blk wr b 94 cs := by
      rcases List.mem_cons.1 hb with rfl | hb
      · exact ⟨_, hn⟩
      · rcases List.mem_append.1 hb with hb | hb
        · exact at_blk hl hb
        · exact at_blk hr hb
    obtain ⟨cs, hk⟩ := this
    have := h.ar.ne hk (by decide) (by decide)
    simp only [List.mem_cons, List.not_mem_nil, or_false] at e
    rcases e with e | e
    · exact this.1 e
    · exact this.2 e
  simp only [T.blocks] at hnd hold hb2
  have hnd2 : (cblocks p ++ b' :: (l.blocks ++ (cblocks [] ++ r.blocks))).Nodup := by
    simp only [cblocks, List.nil_append, List.nodup_append, List.nodup_cons, List.mem_cons, List.mem_append] at hnd hb2 ⊢
    have e1 : ∀ y ∈ cblocks p, y ≠ b' := fun y hy e => by have := hb1 y hy; omega
    have e2 : b' ∉ l.blocks := fun hy => by have := hb2 b' (.inr (.inl hy)); omega
    have e3 : b' ∉ r.blocks := fun hy => by have := hb2 b' (.inr (.inr hy)); omega
    grind
  have hold2 : ∀ y ∈ cblocks p ++ b' :: (l.blocks ++ (cblocks [] ++ r.blocks)), y ∈ B0 ∨ w.heap.size ≤ y := fun y hy => by
    simp only [cblocks, List.nil_append, List.mem_append, List.mem_cons] at hy hold
    rcases hy with hy | rfl | hy | hy
    · exact hold y (.inl hy)
    · exact .inr hw
    · exact hold y (.inr (.inr (.inl hy)))
    · exact hold y (.inr (.inr (.inr hy)))
  refine ⟨(h.stk hf hpush.take hdC hdD hC hD).hang _ hnd2 hold2, hn.fr hf (hne b' (by simp)), hl.fr hf (fun y hy => hne y (by simp [hy])), trivial, hr.fr hf (fun y hy => hne y (by simp [hy])), hpush⟩

theorem HSt.push {hb : Nat} {hbal : Int} {tl tr : T} {hk hv : Int} (h : HSt w i B0 n C D dn dv p x b' bal l k v hs (T.nd hb hbal tl hk hv tr) wr) {len : Nat} (hlen : p.length + 1 + hs.length = len) (hlt : len < 64)
    (hdC : dn ≠ C) (hdD : dn ≠ D) (hC : i ≠ C) (hD : i ≠ D) :
    HSt w i B0 n C D dn dv p x b' bal l k v (hs ++ [⟨hb, hbal, false, tr, hk, hv⟩]) tl ((wr.setCell ⟨D, len, none⟩ (.int .i64 0)).setCell ⟨C, len, none⟩ (.pointer (some ⟨hb, 0, none⟩))) := by
  have hl2 : (p ++ (⟨b', bal, true, l, k, v⟩ : Fm) :: hs).length = len := by simp only [List.length_append, List.length_cons]; omega
  have hf := two_fr wr C D len (.int .i64 0) (.pointer (some ⟨hb, 0, none⟩))
  have hpush := h.ar.push ⟨hb, hbal, false, tr, hk, hv⟩ (by rw [hl2]; exact hlt)
  rw [hl2] at hpush
  simp only [Bool.false_eq_true, if_false] at hpush
  rw [List.append_assoc] at hpush
  obtain ⟨hd, hne⟩ := h.stk hf hpush hdC hdD hC hD
  have hp : (cblocks (hs ++ [⟨hb, hbal, false, tr, hk, hv⟩]) ++ tl.blocks).Perm (cblocks hs ++ (T.nd hb hbal tl hk hv tr).blocks) := by
    rw [cblocks_append, List.append_assoc]
    refine List.Perm.append_left _ ?_
    simp only [cblocks, List.append_nil, T.blocks, List.cons_append]
    exact List.Perm.cons _ List.perm_append_comm
  have hp2 : (cblocks p ++ b' :: (l.blocks ++ (cblocks (hs ++ [⟨hb, hbal, false, tr, hk, hv⟩]) ++ tl.blocks))).Perm (cblocks p ++ b' :: (l.blocks ++ (cblocks hs ++ (T.nd hb hbal tl hk hv tr).blocks))) := List.Perm.append_left _ (List.Perm.cons _ (List.Perm.append_left _ hp))
  have ha := h.att.fr hf (fun y hy => hne y (by simp [hy]))
  refine ⟨hd.hang _ (hp2.symm.nodup hd.nd) (fun y hy => hd.old y (hp2.mem_iff.1 hy)), ?_, h.al.fr hf (fun y hy => hne y (by simp [hy])), (AtC_append _ hs _ _).2 ⟨h.ah.fr hf (fun y hy => hne y (by simp [hy])), ha.1, ha.2.2, trivial⟩, ha.2.1, hpush⟩
  rw [top_append]
  exact h.nb.fr hf (hne b' (by simp))

/-- the heir's entry goes into the copy -/
theorem HSt.entry (h : HSt w i B0 n C D dn dv p x b' bal l k v hs t wr) (hw : w.heap.size ≤ b') (k2 v2 : Int) :
    HSt w i B0 n C D dn dv p x b' bal l k2 v2 hs t (wr.setCell ⟨b', 3, none⟩ (.iface 99 (.agg #[.int .i64 k2, .int .i64 v2]))) := by
  obtain ⟨k1, k3, k4, k5, k6⟩ := h.d.nodeFr h.nb (.inr hw) 3 (.iface 99 (.agg #[.int .i64 k2, .int .i64 v2]))
  have hnd := h.d.nd
  simp only [List.nodup_append, List.nodup_cons, List.mem_append, List.mem_cons] at hnd
  have hp : ∀ y ∈ cblocks p, y ∉ [b'] := fun y hy e => hnd.2.2 y hy b' (.inl rfl) (List.mem_singleton.1 e)
  refine ⟨⟨AtC.fr h.d.ctx k6 hp, k1, k3, h.d.nd, h.d.old, k4, k5, h.d.dnw⟩, h.nb.setE k2 v2, h.al.fr k6 (fun y hy e => hnd.2.1.1 (.inl (by rw [← List.mem_singleton.1 e]; exact hy))), h.ah.fr k6 (fun y hy e => hnd.2.1.1 (.inr (.inl (by rw [← List.mem_singleton.1 e]; exact hy)))), h.att.fr k6 (fun y hy e => hnd.2.1.1 (.inr (.inr (by rw [← List.mem_singleton.1 e]; exact hy)))), ?_⟩
  exact (h.ar.fr k6 (fun y hy => by rw [List.mem_singleton.1 hy]; exact h.ar.ne h.nb (by decide) (by decide))).swap rfl rfl

/-- the path's last node points to the copy -/
theorem HSt.linkP {p' : List Fm} {f : Fm} (h : HSt w i B0 n C D dn dv (p' ++ [f]) x b' bal l k v hs t wr) :
    HSt w i B0 n C D dn dv (p' ++ [f]) (some ⟨b', 0, none⟩) b' bal l k v hs t (wr.setCell ⟨f.b, if f.d then 2 else 1, none⟩ (.pointer (some ⟨b', 0, none⟩))) := by
  obtain ⟨h1, h2⟩ := h.d.link (some ⟨b', 0, none⟩)
  refine h.fr h2 (fun y hy e => ?_) (fun y hy => ?_) h1
  · exact (List.nodup_append.1 h.d.nd).2.2 f.b (by rw [cblocks_append]; simp [cblocks]) y hy (List.mem_singleton.1 e).symm
  · rw [List.mem_singleton.1 hy]
    obtain ⟨cs, hk⟩ := AtC.blk (b := f.b) h.d.ctx (by rw [cblocks_append]; simp [cblocks])
    exact h.ar.ne hk (by decide) (by decide)
theorem HSt.linkR (h : HSt w i B0 n C D dn dv [] x b' bal l k v hs t wr) (hdi : dn ≠ i) (hC : i ≠ C) (hD : i ≠ D) :
    HSt w i B0 n C D dn dv [] (some ⟨b', 0, none⟩) b' bal l k v hs t (wr.setCell ⟨i, 0, none⟩ (.pointer (some ⟨b', 0, none⟩))) := by
  obtain ⟨h1, h2⟩ := h.d.root (some ⟨b', 0, none⟩) hdi hC hD
  refine h.fr h2 (fun y hy e => ?_) (fun y hy => by rw [List.mem_singleton.1 hy]; exact ⟨hC, hD⟩) h1
  obtain ⟨cs, hk⟩ := h.hne y hy
  exact h.d.head.ne hk (List.mem_singleton.1 e)

theorem HSt.join (h : HSt w i B0 n C D dn dv p (some ⟨b', 0, none⟩) b' bal l k v hs t wr) : DSt w i B0 n C D dn dv (p ++ ⟨b', bal, true, l, k, v⟩ :: hs) (ptr t) t.blocks wr :=
  DSt.join (F := ⟨b', bal, true, l, k, v⟩) h.d (List.Perm.refl _) rfl h.nb h.al h.ah h.ar
end

/-- the plain side: the path through the copy to the heir's right child -/
theorem heir_plain {p hs : List Fm} {b b' : Nat} {bal : Int} {l r : T} {k v : Int} {hb : Nat} {hbal : Int} {hr : T} {hk hv : Int} (hr1 : plug hs (.nd hb hbal .nil hk hv hr) = r) (hl : lefts hs = []) (hv1 : VC p (T.nd b bal l k v r).h) (hv2 : V (.nd b bal l k v r)) :
    VC (p ++ ⟨b', bal, true, l, hk, hv⟩ :: hs) (hr.h + 1) ∧ V hr ∧ lefts (p ++ ⟨b', bal, true, l, hk, hv⟩ :: hs) ++ hr.toL ++ rights (p ++ ⟨b', bal, true, l, hk, hv⟩ :: hs) = lefts p ++ l.toL ++ (r.toL ++ rights p) ∧ hs.length + 1 ≤ r.h := by
  obtain ⟨h1, h2, h3, h4, h5⟩ := hv2
  have h6 := h5
  rw [← hr1, V_plug] at h6
  have e1 : (T.nd hb hbal .nil hk hv hr).h = hr.h + 1 := by simp [T.h]
  have e2 : hgt hs (hr.h + 1) = r.h := by rw [← hr1, plug_h, e1]
  rw [e1] at h6
  have e3 := hgt_len hs (hr.h + 1)
  refine ⟨(VC_append _ _ _).2 ⟨?_, ?_⟩, h6.2.2.2.2.2, ?_, by omega⟩
  · have : hgt (⟨b', bal, true, l, hk, hv⟩ :: hs) (hr.h + 1) = (T.nd b bal l k v r).h := by simp only [hgt, e2, T.h]
    rw [this]; exact hv1
  · simp only [VC, e2, if_true]
    exact ⟨h1, h2, h3, h4, h6.1⟩
  · rw [lefts_append, rights_append, ← hr1, toL_plug]
    simp [lefts, rights, T.toL, hl]
end Go.Proofs.Ytidekgmpbcnfmaa
