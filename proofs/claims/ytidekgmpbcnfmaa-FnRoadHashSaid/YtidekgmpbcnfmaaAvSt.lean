/- The state of an insertion into an AVL tree on its way down. -/
import Derived.Test.YtidekgmpbcnfmaaAvRot
namespace Go.Proofs.Ytidekgmpbcnfmaa
set_option linter.unusedVariables false
open Go.RowKit Avm

/-- the head of a tree in block i -/
def Hd (w : World) (i : Nat) (root : Option Addr) (n : Nat) : Prop :=
  ∃ (db : Int) (dl dr : Option Addr), Blk w i 96 #[.pointer root, .int .u64 (n : Int), .int .i8 db, .pointer dl, .pointer dr, Value.nilIface]
/-- the helper node of an insertion -/
def Nd0 (w : World) (D : Nat) (x : Option Addr) : Prop := Blk w D 94 #[.int .i8 0, .pointer none, .pointer x, Value.nilIface]
theorem Fr.fresh {F F' : List Nat} {w w' : World} (h : Fr F F' w w') {a : Addr} (ha : w.heap.size ≤ a.block) (u : Value) : Fr F F' w (w'.setCell a u) :=
  ⟨h.os, h.tape, h.output, by simpa using h.size, fun k hk h1 => (Below.heap_setCell w' a u k (by omega)).trans (h.block k hk h1), h.next⟩
theorem Fr.storeE {F : List Nat} {w w' : World} (h : Fr F F w w') {a : Addr} (ha : a.block ∈ F ∨ w.heap.size ≤ a.block) (u : Value) : Fr F F w (w'.setCell a u) := by
  rcases ha with ha | ha
  · exact h.trans (Fr.store w' ha u)
  · exact h.fresh ha u
theorem Blk.next {w w' : World} {b : Nat} {t : TypeId} {cs : Array Value} (h : Blk w b t cs) (hb : Below w.heap.size w w') : Blk w' b t cs := h.below hb h.lt

def HdC (w : World) (i : Nat) (root : Option Addr) (n : Nat) : Prop := Blk w i 96 #[.pointer root, .int .u64 (n : Int), .int .i8 0, .pointer none, .pointer none, Value.nilIface]
structure InsSt (w : World) (i D b0 n G : Nat) (k : Int) (L : List (Int × Int)) (fs : List Fm) (t : T) (wr : World) : Prop where
  ctx : AtC wr fs (ptr t)
  sub : At wr t
  dum : Nd0 wr D (some ⟨b0, 0, none⟩)
  head : HdC wr i (some ⟨b0, 0, none⟩) n
  fr : Fr [i, b0] [i, b0] w wr
  nd : (cblocks fs ++ t.blocks).Nodup
  off : ∀ b ∈ cblocks fs ++ t.blocks, b ≠ D ∧ b ≠ i
  root : top fs (ptr t) = some ⟨b0, 0, none⟩
  vc : VC fs t.h
  v : V t
  list : lefts fs ++ t.toL ++ rights fs = L
  lt : ∀ x ∈ lefts fs, x.1 < k
  gt : ∀ x ∈ rights fs, k < x.1
  own : ∀ g ∈ fs, g.b = b0 ∨ w.heap.size ≤ g.b
  dn : D ≠ i ∧ w.heap.size ≤ D
  bas : G ≤ w.heap.size ∧ ∀ b ∈ cblocks fs ++ t.blocks, G ≤ b

theorem InsSt.next {w : World} {i D b0 n G : Nat} {k : Int} {L : List (Int × Int)} {fs : List Fm} {t : T} {wr wr' : World} (h : InsSt w i D b0 n G k L fs t wr) (hb : Below wr.heap.size wr wr') : InsSt w i D b0 n G k L fs t wr' :=
  { h with ctx := h.ctx.below hb, sub := h.sub.below hb, dum := h.dum.next hb, head := h.head.next hb, fr := h.fr.trans (Fr.of_below _ hb) }

/-- a path is one node longer -/
theorem InsSt.down {w : World} {i D b0 n G : Nat} {k : Int} {L : List (Int × Int)} {fs : List Fm} {f : Fm} {t : T} {wr : World} (h : InsSt w i D b0 n G k L fs (f.put t) wr) (hk : if f.d then f.k < k else k < f.k) (hs : Srt L) (ho : f.b = b0 ∨ w.heap.size ≤ f.b) : InsSt w i D b0 n G k L (fs ++ [f]) t wr := by
  have hp : ptr (f.put t) = some ⟨f.b, 0, none⟩ := ptr_plug [f] t
  have hsub : AtC wr [f] (ptr t) ∧ At wr t := (at_plug wr [f] t).1 h.sub
  have hb : (cblocks (fs ++ [f]) ++ t.blocks).Perm (cblocks fs ++ (f.put t).blocks) := by
    rw [cblocks_append, List.append_assoc]
    exact (plug_blocks [f] t).symm.append_left _
  have hl : lefts (fs ++ [f]) ++ t.toL ++ rights (fs ++ [f]) = L := by
    rw [← h.list, put_toL, lefts_append, rights_append]
    simp [lefts, rights]
  have hv := (V_put f t).1 h.v
  have hc : VC (fs ++ [f]) t.h := by
    rw [VC_append]
    have : hgt [f] t.h = (f.put t).h := (put_h f t).symm
    rw [this]
    exact ⟨h.vc, ⟨hv.1, hv.2.1, hv.2.2.1, hv.2.2.2.1, trivial⟩⟩
  have hsl : Srt (lefts fs ++ (f.put t).toL ++ rights fs) := by rw [h.list]; exact hs
  refine ⟨(AtC_append wr fs [f] (ptr t)).2 ⟨by rw [show top [f] (ptr t) = ptr (f.put t) from hp.symm]; exact h.ctx, hsub.1⟩, hsub.2, h.dum, h.head, h.fr, hb.symm.nodup h.nd, fun b hm => h.off b (hb.mem_iff.1 hm), ?_, hc, hv.2.2.2.2, hl, ?_, ?_, ?_, h.dn, ⟨h.bas.1, fun b hm => h.bas.2 b (hb.mem_iff.1 hm)⟩⟩
  · rw [top_append, show top [f] (ptr t) = ptr (f.put t) from hp.symm]; exact h.root
  · rw [lefts_append]
    intro x hx
    rcases List.mem_append.1 hx with hx | hx
    · exact h.lt x hx
    · cases hd : f.d with
      | false => simp [lefts, hd] at hx
      | true =>
        rw [hd] at hk
        simp only [if_true] at hk
        simp only [lefts, hd, if_true, List.append_nil] at hx
        rcases List.mem_append.1 hx with hx | hx
        · have h1 := hsl
          rw [put_toL, hd] at h1
          simp only [if_true, List.append_nil] at h1
          have h2 := (List.pairwise_append.1 (List.pairwise_append.1 (List.pairwise_append.1 (List.pairwise_append.1 h1).1).2.1).1).2.2 x hx (f.k, f.v) (by simp)
          simp only [] at h2
          omega
        · rw [List.mem_singleton.1 hx]; exact hk
  · rw [rights_append]
    intro x hx
    rcases List.mem_append.1 hx with hx | hx
    · cases hd : f.d with
      | true => simp [rights, hd] at hx
      | false =>
        rw [hd] at hk
        simp only [Bool.false_eq_true, if_false] at hk
        simp only [rights, hd, Bool.false_eq_true, if_false, List.nil_append] at hx
        rcases List.mem_cons.1 hx with rfl | hx
        · exact hk
        · have h1 := hsl
          rw [put_toL, hd] at h1
          simp only [Bool.false_eq_true, if_false, List.nil_append] at h1
          have h2 := List.pairwise_cons.1 ((List.pairwise_append.1 (List.pairwise_append.1 (List.pairwise_append.1 h1).1).2.1).2.1)
          have h3 := h2.1 x hx
          simp only [] at h3
          omega
    · exact h.gt x hx
  · intro g hg
    rcases List.mem_append.1 hg with hg | hg
    · exact h.own g hg
    · rw [List.mem_singleton.1 hg]; exact ho

/-- the node behind the path was copied, and the path's last node points to the copy -/
theorem InsSt.copied {w : World} {i D b0 n G : Nat} {k : Int} {L : List (Int × Int)} {fs : List Fm} {f : Fm} {b2 : Nat} {bal2 : Int} {l2 : T} {k2 v2 : Int} {r2 : T} {wr wc : World} {c : Nat}
    (h : InsSt w i D b0 n G k L (fs ++ [f]) (.nd b2 bal2 l2 k2 v2 r2) wr) (hb : Below wr.heap.size wr wc) (hc : c = wr.heap.size) (hn : Nd wc c bal2 (ptr l2) (ptr r2) k2 v2) :
    InsSt w i D b0 n G k L (fs ++ [f]) (.nd c bal2 l2 k2 v2 r2) (wc.setCell ⟨f.b, if f.d then 2 else 1, none⟩ (.pointer (some ⟨c, 0, none⟩))) := by
  have hctx := (AtC_append wc fs [f] _).1 (h.ctx.below hb)
  have hsub := h.sub.below hb
  have hnd := h.nd
  rw [cblocks_append] at hnd
  have hlt1 := AtC.lt h.ctx
  have hlt2 := h.sub.lt
  have hm : f.b ∈ cblocks (fs ++ [f]) := by rw [cblocks_append]; simp [cblocks]
  have hfb : f.b < wr.heap.size := hlt1 f.b hm
  have hne : f.b ≠ c := by omega
  have hfr : Fr [f.b] [f.b] wc (wc.setCell ⟨f.b, if f.d then 2 else 1, none⟩ (.pointer (some ⟨c, 0, none⟩))) := Fr.store wc (F := [f.b]) (a := ⟨f.b, if f.d then 2 else 1, none⟩) (by simp) _
  simp only [cblocks, List.append_nil, List.append_assoc, List.nodup_append, List.nodup_cons, List.cons_append, T.blocks] at hnd
  have hd1 : ∀ b ∈ cblocks fs, b ∉ [f.b] := fun b hb e => by
    rw [List.mem_singleton] at e
    exact hnd.2.2 b hb f.b (by simp) (by rw [e])
  have hd2 : ∀ b ∈ f.sib.blocks, b ∉ [f.b] := fun b hb e => by
    rw [List.mem_singleton] at e
    exact hnd.2.1.1 (by rw [← e]; simp [hb])
  have hd3 : ∀ b ∈ l2.blocks, b ∉ [f.b] := fun b hb e => by
    rw [List.mem_singleton] at e
    exact hnd.2.1.1 (by rw [← e]; simp [hb])
  have hd4 : ∀ b ∈ r2.blocks, b ∉ [f.b] := fun b hb e => by
    rw [List.mem_singleton] at e
    exact hnd.2.1.1 (by rw [← e]; simp [hb])
  have hofb := h.off f.b (List.mem_append_left _ hm)
  have hnf : Nd wc f.b f.bal (if f.d then ptr f.sib else some ⟨b2, 0, none⟩) (if f.d then some ⟨b2, 0, none⟩ else ptr f.sib) f.k f.v := hctx.2.1
  have hnf' : Nd (wc.setCell ⟨f.b, if f.d then 2 else 1, none⟩ (.pointer (some ⟨c, 0, none⟩))) f.b f.bal (if f.d then ptr f.sib else some ⟨c, 0, none⟩) (if f.d then some ⟨c, 0, none⟩ else ptr f.sib) f.k f.v := by
    cases hd : f.d <;> rw [hd] at hnf
    · exact Nd.setL hnf _
    · exact Nd.setR hnf _
  refine ⟨(AtC_append _ fs [f] _).2 ⟨hctx.1.fr hfr hd1, hnf', hctx.2.2.1.fr hfr hd2, trivial⟩, ⟨hn.oth (a := ⟨f.b, if f.d then 2 else 1, none⟩) (fun e => hne e.symm) _, hsub.2.1.fr hfr hd3, hsub.2.2.fr hfr hd4⟩, (h.dum.next hb).other (a := ⟨f.b, if f.d then 2 else 1, none⟩) (fun e => hofb.1 e.symm) _, (h.head.next hb).other (a := ⟨f.b, if f.d then 2 else 1, none⟩) (fun e => hofb.2 e.symm) _, ?_, ?_, ?_, ?_, h.vc, h.v, h.list, h.lt, h.gt, h.own, h.dn, ⟨h.bas.1, ?_⟩⟩
  · refine (h.fr.trans (Fr.of_below _ hb)).storeE ?_ _
    rcases h.own f (by simp) with e | e
    · left; rw [e]; simp
    · right; exact e
  · have hp : (cblocks (fs ++ [f]) ++ (T.nd b2 bal2 l2 k2 v2 r2).blocks).Nodup := h.nd
    rw [List.nodup_append] at hp ⊢
    refine ⟨hp.1, ?_, ?_⟩
    · have := hp.2.1
      simp only [T.blocks, List.nodup_cons] at this ⊢
      exact ⟨fun e => by have := hlt2 c (by simp only [T.blocks]; exact List.mem_cons_of_mem _ e); omega, this.2⟩
    · intro a ha b hb' e
      rcases List.mem_cons.1 hb' with rfl | hb'
      · have := hlt1 a ha; omega
      · exact hp.2.2 a ha b (List.mem_cons_of_mem _ hb') e
  · intro b hb'
    rcases List.mem_append.1 hb' with hb' | hb'
    · exact h.off b (List.mem_append_left _ hb')
    · rcases List.mem_cons.1 hb' with rfl | hb'
      · have h1 := Blk.lt h.dum
        have h2 := Blk.lt h.head
        constructor <;> omega
      · exact h.off b (List.mem_append_right _ (List.mem_cons_of_mem _ hb'))
  · have hr := h.root
    rw [top_append] at hr ⊢
    exact hr
  · intro b hb'
    rcases List.mem_append.1 hb' with hb' | hb'
    · exact h.bas.2 b (List.mem_append_left _ hb')
    · rcases List.mem_cons.1 hb' with rfl | hb'
      · have h1 := h.fr.size
        have h2 := h.bas.1
        omega
      · exact h.bas.2 b (List.mem_append_right _ (List.mem_cons_of_mem _ hb'))

def rb : T → List Nat
  | .nil => []
  | .nd b _ _ _ _ _ => [b]
/-- what an insertion of (k, v) makes of the list, and the value that it takes the place of -/
def Put (k v : Int) (l l' : List (Int × Int)) (o : Option Int) : Prop :=
  ∃ ls rs, l' = ls ++ (k, v) :: rs ∧ (∀ x ∈ ls, x.1 < k) ∧ (∀ x ∈ rs, k < x.1) ∧ ((l = ls ++ rs ∧ o = none) ∨ ∃ v0, l = ls ++ (k, v0) :: rs ∧ o = some v0)
def ovv (k : Int) (o : Option Int) : Value :=
  match o with
  | none => Value.nilIface
  | some v0 => .iface 99 (.agg #[.int .i64 k, .int .i64 v0])
def InsPost (w : World) (i b0 G : Nat) (k v : Int) (L : List (Int × Int)) (e : Ending) (w' : World) : Prop :=
  ∃ t' o, e = .returned (ovv k o) ∧ Hd w' i (ptr t') t'.toL.length ∧ At w' t' ∧ t'.blocks.Nodup ∧ V t' ∧ Put k v L t'.toL o ∧ Fr [i, b0] (i :: rb t') w w' ∧ ∀ b ∈ t'.blocks, G ≤ b

theorem InsSt.equal {w : World} {i D b0 n G : Nat} {k : Int} {L : List (Int × Int)} {fs : List Fm} {b : Nat} {bal : Int} {l : T} {pv : Int} {r : T} {wr : World}
    (h : InsSt w i D b0 n G k L fs (.nd b bal l k pv r) wr) (hs : Srt L) (hn : n = L.length) (ho : b = b0 ∨ w.heap.size ≤ b) (v : Int) :
    InsPost w i b0 G k v L (.returned (.iface 99 (.agg #[.int .i64 k, .int .i64 pv]))) (wr.setCell ⟨b, 3, none⟩ (.iface 99 (.agg #[.int .i64 k, .int .i64 v]))) := by
  have hnd := h.nd
  rw [List.nodup_append] at hnd
  have hnd2 := hnd.2.1
  simp only [T.blocks, List.nodup_cons] at hnd2
  have hfr : Fr [b] [b] wr (wr.setCell ⟨b, 3, none⟩ (.iface 99 (.agg #[.int .i64 k, .int .i64 v]))) := Fr.store wr (F := [b]) (a := ⟨b, 3, none⟩) (by simp) _
  have hoff := h.off b (List.mem_append_right _ (by simp [T.blocks]))
  have hsub := h.sub
  have h1 : AtC (wr.setCell ⟨b, 3, none⟩ (.iface 99 (.agg #[.int .i64 k, .int .i64 v]))) fs (some ⟨b, 0, none⟩) := AtC.fr h.ctx hfr fun x hx e => hnd.2.2 x hx b (by simp [T.blocks]) (List.mem_singleton.1 e)
  have h2 : At (wr.setCell ⟨b, 3, none⟩ (.iface 99 (.agg #[.int .i64 k, .int .i64 v]))) (.nd b bal l k v r) :=
    ⟨Nd.setE hsub.1 k v, hsub.2.1.fr hfr fun x hx e => hnd2.1 (by rw [← List.mem_singleton.1 e]; simp [hx]), hsub.2.2.fr hfr fun x hx e => hnd2.1 (by rw [← List.mem_singleton.1 e]; simp [hx])⟩
  have hL : L = lefts fs ++ (l.toL ++ (k, pv) :: r.toL) ++ rights fs := h.list.symm
  have hsm : Srt (l.toL ++ (k, pv) :: r.toL) := by
    have h3 := hs
    rw [hL] at h3
    exact (List.pairwise_append.1 (List.pairwise_append.1 h3).1).2.1
  have hlen : (plug fs (.nd b bal l k v r)).toL.length = L.length := by
    rw [toL_plug, hL]; simp [T.toL]
  have hp : ptr (plug fs (.nd b bal l k v r)) = some ⟨b0, 0, none⟩ := by rw [ptr_plug]; exact h.root
  have hrb : rb (plug fs (.nd b bal l k v r)) = [b0] := by
    cases hq : plug fs (.nd b bal l k v r) with
    | nil => rw [hq] at hp; cases hp
    | nd c _ _ _ _ _ => rw [hq] at hp; injection hp with hp; injection hp with hp; rw [rb, hp]
  refine ⟨plug fs (.nd b bal l k v r), some pv, rfl, ⟨0, none, none, ?_⟩, (at_plug _ fs _).2 ⟨h1, h2⟩, ?_, (V_plug fs _).2 ⟨h.vc, h.v⟩, ?_, ?_, fun x hx => h.bas.2 x ((plug_blocks fs (.nd b bal l k v r)).mem_iff.1 hx)⟩
  · rw [hp, hlen, ← hn]; exact h.head.other (a := ⟨b, 3, none⟩) (fun e => hoff.2 e.symm) _
  · exact (plug_blocks fs (.nd b bal l k v r)).symm.nodup h.nd
  · have hsl : ∀ x ∈ l.toL, x.1 < k := fun x hx => (List.pairwise_append.1 hsm).2.2 x hx (k, pv) (by simp)
    have hsr : ∀ x ∈ r.toL, k < x.1 := fun x hx => (List.pairwise_cons.1 (List.pairwise_append.1 hsm).2.1).1 x hx
    refine ⟨lefts fs ++ l.toL, r.toL ++ rights fs, by rw [toL_plug]; simp [T.toL], ?_, ?_, .inr ⟨pv, by rw [hL]; simp, rfl⟩⟩
    · intro x hx
      rcases List.mem_append.1 hx with hx | hx
      · exact h.lt x hx
      · exact hsl x hx
    · intro x hx
      rcases List.mem_append.1 hx with hx | hx
      · exact hsr x hx
      · exact h.gt x hx
  · rw [hrb]
    refine h.fr.storeE ?_ _
    rcases ho with e | e
    · left; rw [e]; simp
    · right; exact e
end Go.Proofs.Ytidekgmpbcnfmaa
