/- The state of an insertion into an AVL tree behind the new leaf. -/
import Derived.Test.YtidekgmpbcnfmaaAvSt
namespace Go.Proofs.Ytidekgmpbcnfmaa
set_option linter.unusedVariables false
open Go.RowKit Avm

structure InsBot (w : World) (i D b0 n G : Nat) (k v : Int) (fs : List Fm) (Q : Nat) (wr : World) : Prop where
  ctx : AtC wr fs (some ⟨Q, 0, none⟩)
  leaf : Nd wr Q 0 none none k v
  dum : Nd0 wr D (some ⟨b0, 0, none⟩)
  head : HdC wr i (some ⟨b0, 0, none⟩) (n + 1)
  fr : Fr [i, b0] [i, b0] w wr
  nd : (cblocks fs ++ [Q]).Nodup
  off : ∀ b ∈ cblocks fs ++ [Q], b ≠ D ∧ b ≠ i
  root : top fs (some ⟨Q, 0, none⟩) = some ⟨b0, 0, none⟩
  own : ∀ g ∈ fs, g.b = b0 ∨ w.heap.size ≤ g.b
  ownQ : w.heap.size ≤ Q
  dn : D ≠ i ∧ w.heap.size ≤ D
  bas : G ≤ w.heap.size ∧ ∀ b ∈ cblocks fs ++ [Q], G ≤ b

theorem InsBot.next {w : World} {i D b0 n G : Nat} {k v : Int} {fs : List Fm} {Q : Nat} {wr wr' : World} (h : InsBot w i D b0 n G k v fs Q wr) (hb : Below wr.heap.size wr wr') : InsBot w i D b0 n G k v fs Q wr' :=
  { h with ctx := h.ctx.below hb, leaf := h.leaf.below hb, dum := h.dum.next hb, head := h.head.next hb, fr := h.fr.trans (Fr.of_below _ hb) }

theorem InsSt.leaf {w : World} {i D b0 n G : Nat} {k v : Int} {L : List (Int × Int)} {fs : List Fm} {f : Fm} {wx wz : World} {Q : Nat}
    (h : InsSt w i D b0 n G k L (fs ++ [f]) .nil wx) (hb : Below wx.heap.size (wx.setCell ⟨i, 1, none⟩ (.int .u64 ((n + 1 : Nat) : Int))) wz) (hQ : Q = wx.heap.size) (hn : Nd wz Q 0 none none k v) :
    InsBot w i D b0 n G k v (fs ++ [f]) Q ((wz.setCell ⟨f.b, if f.d then 2 else 1, none⟩ (.pointer (some ⟨Q, 0, none⟩))).setCell ⟨i, 0, none⟩ (.pointer (some ⟨b0, 0, none⟩))) := by
  have hm : f.b ∈ cblocks (fs ++ [f]) := by rw [cblocks_append]; simp [cblocks]
  have hlt1 := AtC.lt h.ctx
  have hfb : f.b < wx.heap.size := hlt1 f.b hm
  have hoff : ∀ b ∈ cblocks (fs ++ [f]), b ≠ D ∧ b ≠ i := fun b hb => h.off b (List.mem_append_left _ hb)
  have hofb := hoff f.b hm
  have hil : i < wx.heap.size := Blk.lt h.head
  have hDl : D < wx.heap.size := Blk.lt h.dum
  have hsz : (wx.setCell ⟨i, 1, none⟩ (.int .u64 ((n + 1 : Nat) : Int))).heap.size = wx.heap.size := by simp
  have hb1 : Below (wx.setCell ⟨i, 1, none⟩ (.int .u64 ((n + 1 : Nat) : Int))).heap.size (wx.setCell ⟨i, 1, none⟩ (.int .u64 ((n + 1 : Nat) : Int))) wz := by rw [hsz]; exact hb
  have f1 : Fr [i] [i] wx wz := (Fr.store wx (F := [i]) (a := ⟨i, 1, none⟩) (by simp) _).trans (Fr.of_below _ hb1)
  have hctx := (AtC_append wz fs [f] none).1 (AtC.fr h.ctx f1 fun b hb e => (hoff b hb).2 (List.mem_singleton.1 e))
  have hnd := h.nd
  rw [cblocks_append] at hnd
  simp only [cblocks, List.append_nil, T.blocks, List.nodup_append, List.nodup_cons] at hnd
  have f2 : Fr [f.b] [f.b] wz (wz.setCell ⟨f.b, if f.d then 2 else 1, none⟩ (.pointer (some ⟨Q, 0, none⟩))) := Fr.store wz (F := [f.b]) (a := ⟨f.b, if f.d then 2 else 1, none⟩) (by simp) _
  have hnf : Nd wz f.b f.bal (if f.d then ptr f.sib else none) (if f.d then none else ptr f.sib) f.k f.v := hctx.2.1
  have hnf' : Nd (wz.setCell ⟨f.b, if f.d then 2 else 1, none⟩ (.pointer (some ⟨Q, 0, none⟩))) f.b f.bal (if f.d then ptr f.sib else some ⟨Q, 0, none⟩) (if f.d then some ⟨Q, 0, none⟩ else ptr f.sib) f.k f.v := by
    cases hd : f.d <;> rw [hd] at hnf
    · exact Nd.setL hnf _
    · exact Nd.setR hnf _
  have hd1 : ∀ b ∈ cblocks fs, b ∉ [f.b] := fun b hb e => by
    rw [List.mem_singleton] at e
    exact hnd.2.2 b hb f.b (by simp) (by rw [e])
  have hd2 : ∀ b ∈ f.sib.blocks, b ∉ [f.b] := fun b hb e => by
    rw [List.mem_singleton] at e
    exact hnd.2.1.1 (by rw [← e]; exact hb)
  have f3 : Fr [i] [i] (wz.setCell ⟨f.b, if f.d then 2 else 1, none⟩ (.pointer (some ⟨Q, 0, none⟩))) ((wz.setCell ⟨f.b, if f.d then 2 else 1, none⟩ (.pointer (some ⟨Q, 0, none⟩))).setCell ⟨i, 0, none⟩ (.pointer (some ⟨b0, 0, none⟩))) := Fr.store _ (F := [i]) (a := ⟨i, 0, none⟩) (by simp) _
  have hctx2 : AtC (wz.setCell ⟨f.b, if f.d then 2 else 1, none⟩ (.pointer (some ⟨Q, 0, none⟩))) (fs ++ [f]) (some ⟨Q, 0, none⟩) :=
    (AtC_append _ fs [f] _).2 ⟨AtC.fr hctx.1 f2 hd1, hnf', hctx.2.2.1.fr f2 hd2, trivial⟩
  have hoffQ : Q ≠ D ∧ Q ≠ i := by omega
  refine ⟨AtC.fr hctx2 f3 fun b hb e => (hoff b hb).2 (List.mem_singleton.1 e), (hn.oth (a := ⟨f.b, if f.d then 2 else 1, none⟩) (by show Q ≠ f.b; omega) _).oth (a := ⟨i, 0, none⟩) hoffQ.2 _, ?_, ?_, ?_, ?_, ?_, ?_, h.own, by have := h.fr.size; omega, h.dn, ⟨h.bas.1, fun b hb => by
    rcases List.mem_append.1 hb with hb | hb
    · exact h.bas.2 b (List.mem_append_left _ hb)
    · have h1 := h.fr.size
      have h2 := h.bas.1
      rw [List.mem_singleton.1 hb]
      omega⟩⟩
  · exact (f3.blk (f2.blk (f1.blk h.dum (by simp; exact h.dn.1)) (by simp; exact fun e => hofb.1 e.symm)) (by simp; exact h.dn.1))
  · have h1 : Blk wz i 96 #[.pointer (some ⟨b0, 0, none⟩), .int .u64 ((n + 1 : Nat) : Int), .int .i8 0, .pointer none, .pointer none, Value.nilIface] := (Blk.set h.head 1 (.int .u64 ((n + 1 : Nat) : Int))).next hb1
    have h2 := f2.blk h1 (by simp; exact fun e => hofb.2 e.symm)
    exact Blk.set h2 0 (.pointer (some ⟨b0, 0, none⟩))
  · refine ((h.fr.trans (f1.weaken (by simp) (by simp))).storeE (a := ⟨f.b, if f.d then 2 else 1, none⟩) ?_ _).storeE (a := ⟨i, 0, none⟩) (.inl (by simp)) _
    rcases h.own f (by simp) with e | e
    · left; show f.b ∈ _; rw [e]; simp
    · right; exact e
  · have h1 : (cblocks (fs ++ [f])).Nodup := by have := h.nd; simpa [T.blocks] using this
    rw [List.nodup_append]
    refine ⟨h1, by simp, fun a ha b hb e => ?_⟩
    have := hlt1 a ha
    rw [List.mem_singleton.1 hb] at e
    omega
  · intro b hb
    rcases List.mem_append.1 hb with hb | hb
    · exact hoff b hb
    · rw [List.mem_singleton.1 hb]; exact hoffQ
  · have := h.root
    rw [top_append] at this ⊢
    exact this

theorem InsBot.adjust {w : World} {i D b0 n G : Nat} {k v : Int} {p : List Fm} {f : Fm} {td : List Fm} {Q : Nat} {wr : World} (h : InsBot w i D b0 n G k v (p ++ f :: td) Q wr) :
    InsBot w i D b0 n G k v (p ++ f.adj :: td) Q (wr.setCell ⟨f.b, 0, none⟩ (.int .i8 f.adj.bal)) := by
  have hc : cblocks (p ++ f.adj :: td) = cblocks (p ++ f :: td) := by rw [cblocks_append, cblocks_append]; rfl
  have hm : f.b ∈ cblocks (p ++ f :: td) := by rw [cblocks_append]; simp [cblocks]
  have hnd := h.nd
  rw [cblocks_append] at hnd
  simp only [cblocks, List.nodup_append, List.nodup_cons, List.cons_append, List.mem_append, List.mem_cons] at hnd
  have hofb := h.off f.b (List.mem_append_left _ hm)
  have f2 : Fr [f.b] [f.b] wr (wr.setCell ⟨f.b, 0, none⟩ (.int .i8 f.adj.bal)) := Fr.store wr (F := [f.b]) (a := ⟨f.b, 0, none⟩) (by simp) _
  obtain ⟨h1, h2, h3, h4⟩ := (AtC_append wr p (f :: td) _).1 h.ctx
  have hfQ : f.b ≠ Q := fun e => hnd.2.2 f.b (.inr (.inl rfl)) Q (by simp) e
  refine ⟨(AtC_append _ p (f.adj :: td) _).2 ⟨AtC.fr h1 f2 ?_, Nd.setB h2 _, h3.fr f2 ?_, AtC.fr h4 f2 ?_⟩, h.leaf.oth (a := ⟨f.b, 0, none⟩) (fun e => hfQ e.symm) _, Blk.other h.dum (a := ⟨f.b, 0, none⟩) (fun e => hofb.1 e.symm) _, Blk.other h.head (a := ⟨f.b, 0, none⟩) (fun e => hofb.2 e.symm) _, h.fr.storeE (a := ⟨f.b, 0, none⟩) ?_ _, by rw [hc]; exact h.nd, by rw [hc]; exact h.off, ?_, ?_, h.ownQ, h.dn, by rw [hc]; exact h.bas⟩
  · intro b hb e
    rw [List.mem_singleton] at e
    exact hnd.1.2.2 b hb f.b (.inl rfl) e
  · intro b hb e
    rw [List.mem_singleton] at e
    exact hnd.1.2.1.1 (.inl (by rw [← e]; exact hb))
  · intro b hb e
    rw [List.mem_singleton] at e
    exact hnd.1.2.1.1 (.inr (by rw [← e]; exact hb))
  · rcases h.own f (by simp) with e | e
    · left; show f.b ∈ _; rw [e]; simp
    · right; exact e
  · have := h.root
    rw [top_append] at this ⊢
    exact this
  · intro g hg
    rcases List.mem_append.1 hg with hg | hg
    · exact h.own g (List.mem_append_left _ hg)
    · rcases List.mem_cons.1 hg with rfl | hg
      · exact h.own f (by simp)
      · exact h.own g (by simp [hg])

theorem side_l : ∀ (fs : List Fm), ∀ f ∈ fs, f.d = true → (f.k, f.v) ∈ lefts fs
  | [], f, hf, _ => by cases hf
  | g :: fs, f, hf, hd => by
    unfold lefts
    rcases List.mem_cons.1 hf with rfl | hf
    · rw [hd]; simp
    · exact List.mem_append_right _ (side_l fs f hf hd)
theorem side_r : ∀ (fs : List Fm), ∀ f ∈ fs, f.d = false → (f.k, f.v) ∈ rights fs
  | [], f, hf, _ => by cases hf
  | g :: fs, f, hf, hd => by
    unfold rights
    rcases List.mem_cons.1 hf with rfl | hf
    · rw [hd]; simp
    · exact List.mem_append_left _ (side_r fs f hf hd)
end Go.Proofs.Ytidekgmpbcnfmaa
