/- The states of a deletion: a node of the branch is copied; the heir's way is joined to the path. -/
import Derived.Test.YtidekgmpbcnfmaaAvDelSt
namespace Go.Proofs.Ytidekgmpbcnfmaa
set_option linter.unusedVariables false
open Go.RowKit Avm

theorem Ar.swap {wr : World} {G C D : Nat} {p q : List Fm} {f f' : Fm} (h : Ar wr G C D (p ++ f :: q)) (hb : f'.b = f.b) (hd : f'.d = f.d) : Ar wr G C D (p ++ f' :: q) := by
  obtain ⟨xs, ds, ho1, ho2, h3⟩ := h
  refine ⟨xs, ds, ho1, ho2, fun j g hg => ?_⟩
  rcases Nat.lt_trichotomy j p.length with hj | hj | hj
  · rw [List.getElem?_append_left hj] at hg
    exact h3 j g (by rw [List.getElem?_append_left hj]; exact hg)
  · subst hj
    simp at hg
    subst hg
    have := h3 p.length f (by simp)
    rw [hb, hd]
    exact this
  · obtain ⟨m, rfl⟩ : ∃ m, j = p.length + (m + 1) := ⟨j - p.length - 1, by omega⟩
    refine h3 _ g ?_
    rw [List.getElem?_append_right (by omega)] at hg ⊢
    rw [show p.length + (m + 1) - p.length = m + 1 by omega] at hg ⊢
    exact hg

/-- the node behind f was copied, f points to the copy, and the stack holds it -/
theorem DSt.copyMid {w : World} {i : Nat} {B0 : List Nat} {n C D dn : Nat} {dv : Int} {p : List Fm} {f g : Fm} {q : List Fm} {x : Option Addr} {bs : List Nat} {wr wc : World} {c : Nat}
    (h : DSt w i B0 n C D dn dv (p ++ f :: g :: q) x bs wr) (hb : Below wr.heap.size wr wc) (hc : c = wr.heap.size) (hn : Nd wc c g.bal (if g.d then ptr g.sib else top q x) (if g.d then top q x else ptr g.sib) g.k g.v) (hbsl : ∀ b ∈ bs, b < wr.heap.size)
    (hdC : dn ≠ C) (hiC : i ≠ C) :
    DSt w i B0 n C D dn dv (p ++ f :: { g with b := c } :: q) x bs ((wc.setCell ⟨f.b, if f.d then 2 else 1, none⟩ (.pointer (some ⟨c, 0, none⟩))).setCell ⟨C, p.length + 1, none⟩ (.pointer (some ⟨c, 0, none⟩))) := by
  have hN := h.next hb
  have hlt := AtC.lt h.ctx
  have hm : f.b ∈ cblocks (p ++ f :: g :: q) := by rw [cblocks_append]; simp [cblocks]
  obtain ⟨h1, h2, h3, h4, h5, h6⟩ := (AtC_append wc p (f :: g :: q) x).1 hN.ctx
  have hnf : Nd wc f.b f.bal (if f.d then ptr f.sib else some ⟨g.b, 0, none⟩) (if f.d then some ⟨g.b, 0, none⟩ else ptr f.sib) f.k f.v := h2
  obtain ⟨k1, k2, k3, k4, k5⟩ := hN.nodeFr hnf (hN.own (List.mem_append_left _ hm)) (if f.d then 2 else 1) (.pointer (some ⟨c, 0, none⟩))
  have hnd := (List.nodup_append.1 h.nd).1
  rw [cblocks_append] at hnd
  simp only [cblocks, List.nodup_append, List.nodup_cons, List.mem_cons, List.mem_append, List.cons_append] at hnd
  have hnf' : Nd (wc.setCell ⟨f.b, if f.d then 2 else 1, none⟩ (.pointer (some ⟨c, 0, none⟩))) f.b f.bal (if f.d then ptr f.sib else some ⟨c, 0, none⟩) (if f.d then some ⟨c, 0, none⟩ else ptr f.sib) f.k f.v := by
    cases hd : f.d <;> rw [hd] at hnf
    · exact Nd.setL hnf _
    · exact Nd.setR hnf _
  have hfc : f.b ≠ c := by have := hlt f.b hm; omega
  have kn : Nd (wc.setCell ⟨f.b, if f.d then 2 else 1, none⟩ (.pointer (some ⟨c, 0, none⟩))) c g.bal (if g.d then ptr g.sib else top q x) (if g.d then top q x else ptr g.sib) g.k g.v := hn.oth (a := ⟨f.b, if f.d then 2 else 1, none⟩) (fun e => hfc e.symm) _
  have m1 : AtC (wc.setCell ⟨f.b, if f.d then 2 else 1, none⟩ (.pointer (some ⟨c, 0, none⟩))) (p ++ f :: { g with b := c } :: q) x := by
    refine (AtC_append _ p _ x).2 ⟨AtC.fr h1 k5 fun b hb e => ?_, hnf', h3.fr k5 fun b hb e => ?_, kn, h5.fr k5 fun b hb e => ?_, AtC.fr h6 k5 fun b hb e => ?_⟩
    · rw [List.mem_singleton] at e
      exact hnd.2.2 b hb f.b (.inl rfl) e
    · rw [List.mem_singleton] at e
      exact hnd.2.1.1 (.inl (by rw [← e]; exact hb))
    · rw [List.mem_singleton] at e
      exact hnd.2.1.1 (.inr (.inr (.inl (by rw [← e]; exact hb))))
    · rw [List.mem_singleton] at e
      exact hnd.2.1.1 (.inr (.inr (.inr (by rw [← e]; exact hb))))
  have htop : top (p ++ f :: { g with b := c } :: q) x = top (p ++ f :: g :: q) x := by rw [top_append, top_append]; rfl
  rw [← htop] at k1
  have hC : Fr [C] [C] (wc.setCell ⟨f.b, if f.d then 2 else 1, none⟩ (.pointer (some ⟨c, 0, none⟩))) ((wc.setCell ⟨f.b, if f.d then 2 else 1, none⟩ (.pointer (some ⟨c, 0, none⟩))).setCell ⟨C, p.length + 1, none⟩ (.pointer (some ⟨c, 0, none⟩))) := Fr.store _ (F := [C]) (a := ⟨C, p.length + 1, none⟩) (by simp) _
  have hl := k3.lt
  have kar := Ar.ren (p := p ++ [f]) (q := q) (f := g) (by rw [List.append_assoc]; exact k3) c
  rw [List.append_assoc, List.length_append] at kar
  refine ⟨AtC.fr m1 hC fun b hb e => ?_, k1.fr hC (fun e => hiC (List.mem_singleton.1 e)), rem_of0 k2 hC (fun y hy => ?_), ?_, fun b hb => ?_, kar, hC.blk k4 (fun e => hdC (List.mem_singleton.1 e)), h.dnw⟩
  · obtain ⟨cs, hk⟩ := AtC.blk m1 hb
    exact (k3.ne hk (by decide) (by decide)).1 (List.mem_singleton.1 e)
  · rw [List.mem_singleton.1 hy]; exact .inr hl.1.2
  · have hcn : c ∉ cblocks p ++ f.b :: (f.sib.blocks ++ (g.sib.blocks ++ cblocks q)) := fun hm2 => by
      have : c ∈ cblocks (p ++ f :: g :: q) := by
        rw [cblocks_append]
        simp only [cblocks, List.mem_append, List.mem_cons] at hm2 ⊢
        grind
      have := hlt c this
      omega
    have hcb : c ∉ bs := fun hm2 => by
      rcases h.old c (List.mem_append_right _ hm2) with h7 | h7
      · have h8 := List.nodup_append.1 h.nd
        exact absurd (hbsl c hm2) (by omega)
      · exact absurd (hbsl c hm2) (by omega)
    have := h.nd
    rw [cblocks_append] at this ⊢
    simp only [cblocks, List.nodup_append, List.nodup_cons, List.mem_cons, List.mem_append, List.cons_append, not_or] at this hcn ⊢
    grind
  · rw [cblocks_append] at hb
    have ho : ∀ b ∈ cblocks (p ++ f :: g :: q) ++ bs, b ∈ B0 ∨ w.heap.size ≤ b := h.old
    rw [cblocks_append] at ho
    have hsz := h.fr.size
    simp only [cblocks, List.mem_append, List.mem_cons] at hb ho
    have : b = c → w.heap.size ≤ b := fun e => by omega
    grind

/-- the copy that takes the heir's entry hangs at the path, and the heir's way below it -/
theorem DSt.join {w : World} {i : Nat} {B0 : List Nat} {n C D dn : Nat} {dv : Int} {fs hs : List Fm} {F : Fm} {t : T} {bs : List Nat} {wr : World} (h : DSt w i B0 n C D dn dv fs (some ⟨F.b, 0, none⟩) bs wr)
    (hbs : bs.Perm (F.b :: (F.sib.blocks ++ (cblocks hs ++ t.blocks)))) (hd : F.d = true) (hF : Nd wr F.b F.bal (ptr F.sib) (top hs (ptr t)) F.k F.v) (hs' : At wr F.sib) (hh : AtC wr hs (ptr t)) (har : Ar wr w.heap.size C D (fs ++ F :: hs)) :
    DSt w i B0 n C D dn dv (fs ++ F :: hs) (ptr t) t.blocks wr := by
  have hp : (cblocks (fs ++ F :: hs) ++ t.blocks).Perm (cblocks fs ++ bs) := by
    rw [cblocks_append, List.append_assoc]
    refine List.Perm.append_left _ ?_
    refine List.Perm.trans ?_ hbs.symm
    simp only [cblocks, List.cons_append, List.append_assoc]
    exact List.Perm.refl _
  have htop : top (fs ++ F :: hs) (ptr t) = top fs (some ⟨F.b, 0, none⟩) := by rw [top_append]; rfl
  refine ⟨(AtC_append wr fs (F :: hs) (ptr t)).2 ⟨h.ctx, ?_, hs', hh⟩, by rw [htop]; exact h.head, h.fr, hp.symm.nodup h.nd, fun b hb => h.old b (hp.mem_iff.1 hb), har, h.dne, h.dnw⟩
  rw [hd]
  exact hF

/-- the list without a key -/
theorem delS_mid {ls rs : List (Int × Int)} {k v : Int} (h1 : ∀ x ∈ ls, x.1 < k) (h2 : ∀ x ∈ rs, k < x.1) : (ls ++ (k, v) :: rs).filter (fun x => decide (x.1 ≠ k)) = ls ++ rs := by
  rw [List.filter_append, List.filter_cons, if_neg (by simp), List.filter_eq_self.2 (fun x hx => by have := h1 x hx; simp; omega), List.filter_eq_self.2 (fun x hx => by have := h2 x hx; simp; omega)]
theorem delS_none {l : List (Int × Int)} {k : Int} (h : ∀ x ∈ l, x.1 ≠ k) : l.filter (fun x => decide (x.1 ≠ k)) = l :=
  List.filter_eq_self.2 fun x hx => by simpa using h x hx
end Go.Proofs.Ytidekgmpbcnfmaa
