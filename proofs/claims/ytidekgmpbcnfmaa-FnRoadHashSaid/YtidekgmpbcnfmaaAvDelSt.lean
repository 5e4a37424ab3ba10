/- The states that a deletion from an AVL tree goes through. -/
import Derived.Test.YtidekgmpbcnfmaaAvRem2
import Derived.Test.YtidekgmpbcnfmaaAvDelMath
import Derived.Test.YtidekgmpbcnfmaaAvTree
namespace Go.Proofs.Ytidekgmpbcnfmaa
set_option linter.unusedVariables false
open Go.RowKit Avm

/-- the stack of nodes and directions -/
def Ar (wr : World) (G C D : Nat) (fs : List Fm) : Prop :=
  ∃ xs ds : List Value, wr.ownsRow G 88 1 (.slice (some ⟨C, 0, none⟩) 64 64) 64 xs ∧ wr.ownsRow G 3 1 (.slice (some ⟨D, 0, none⟩) 64 64) 64 ds ∧ ∀ (j : Nat) (f : Fm), fs[j]? = some f → xs[j]? = some (.pointer (some ⟨f.b, 0, none⟩)) ∧ ds[j]? = some (.int .i64 (if f.d then 1 else 0))
theorem Ar.fr {wr wr' : World} {G C D : Nat} {fs : List Fm} {F F' : List Nat} (h : Ar wr G C D fs) (hf : Fr F F' wr wr') (hF : ∀ x ∈ F, x ≠ C ∧ x ≠ D) : Ar wr' G C D fs := by
  obtain ⟨xs, ds, h1, h2, h3⟩ := h
  refine ⟨xs, ds, hf.own h1 (fun k hk e => ?_), hf.own h2 (fun k hk e => ?_), h3⟩
  · rw [obl_some, List.mem_singleton] at hk
    exact (hF k e).1 hk
  · rw [obl_some, List.mem_singleton] at hk
    exact (hF k e).2 hk
theorem Ar.below {wr wr' : World} {G C D : Nat} {fs : List Fm} (h : Ar wr G C D fs) (hb : Below wr.heap.size wr wr') : Ar wr' G C D fs := h.fr (Fr.of_below [] hb) (fun _ h => by cases h)
theorem Ar.ne {wr : World} {G C D : Nat} {fs : List Fm} (h : Ar wr G C D fs) {b : Nat} {cs : Array Value} {t : TypeId} (hb : Blk wr b t cs) (h1 : 88 ≠ t) (h2 : 3 ≠ t) : b ≠ C ∧ b ≠ D := by
  obtain ⟨xs, ds, ho1, ho2, _⟩ := h
  exact ⟨fun e => row_blk ho1 hb h1 (by rw [e]; rfl), fun e => row_blk ho2 hb h2 (by rw [e]; rfl)⟩
theorem Ar.cd {wr : World} {G C D : Nat} {fs : List Fm} (h : Ar wr G C D fs) : C ≠ D := by
  obtain ⟨xs, ds, ho1, ho2, _⟩ := h
  intro e
  exact row_row ho1 ho2 (by decide) C (by simp [obl_some]) (by rw [e]; simp [obl_some])
theorem Ar.lt {wr : World} {G C D : Nat} {fs : List Fm} (h : Ar wr G C D fs) : (C < wr.heap.size ∧ G ≤ C) ∧ (D < wr.heap.size ∧ G ≤ D) := by
  obtain ⟨xs, ds, ho1, ho2, _⟩ := h
  exact ⟨own_lt ho1 C (by simp [obl_some]), own_lt ho2 D (by simp [obl_some])⟩
theorem Ar.freeC {wr : World} {G C D : Nat} {fs : List Fm} (h : Ar wr G C D fs) (j : Nat) : wr.frozen? ⟨C, j, none⟩ = false := by
  obtain ⟨xs, ds, ho1, ho2, _⟩ := h
  exact ho1.frozenAt j
theorem Ar.freeD {wr : World} {G C D : Nat} {fs : List Fm} (h : Ar wr G C D fs) (j : Nat) : wr.frozen? ⟨D, j, none⟩ = false := by
  obtain ⟨xs, ds, ho1, ho2, _⟩ := h
  exact ho2.frozenAt j
theorem Ar.someC {wr : World} {G C D : Nat} {fs : List Fm} (h : Ar wr G C D fs) (j : Nat) (hj : j < 64) : ∃ u, wr.cell? ⟨C, j, none⟩ = some u := by
  obtain ⟨xs, ds, ho1, ho2, _⟩ := h
  have hl : xs.length = 64 := by have := ho1.1; omega
  exact ⟨xs[j], by rw [ho1.cellAt j (by omega), List.getElem?_eq_getElem (by omega)]⟩
theorem Ar.someD {wr : World} {G C D : Nat} {fs : List Fm} (h : Ar wr G C D fs) (j : Nat) (hj : j < 64) : ∃ u, wr.cell? ⟨D, j, none⟩ = some u := by
  obtain ⟨xs, ds, ho1, ho2, _⟩ := h
  have hl : ds.length = 64 := by have := ho2.1; omega
  exact ⟨ds[j], by rw [ho2.cellAt j (by omega), List.getElem?_eq_getElem (by omega)]⟩
theorem Ar.at_ {wr : World} {G C D : Nat} {fs : List Fm} (h : Ar wr G C D fs) {j : Nat} {f : Fm} (hf : fs[j]? = some f) : wr.cell? ⟨C, j, none⟩ = some (.pointer (some ⟨f.b, 0, none⟩)) ∧ wr.cell? ⟨D, j, none⟩ = some (.int .i64 (if f.d then 1 else 0)) := by
  obtain ⟨xs, ds, ho1, ho2, h3⟩ := h
  obtain ⟨h4, h5⟩ := h3 j f hf
  have l1 : xs.length = 64 := by have := ho1.1; omega
  have l2 : ds.length = 64 := by have := ho2.1; omega
  have hj : j < 64 := by have := (List.getElem?_eq_some_iff.1 h4).1; omega
  rw [ho1.cellAt j (by omega), ho2.cellAt j (by omega)]
  exact ⟨h4, h5⟩
theorem Ar.take {wr : World} {G C D : Nat} {fs gs : List Fm} (h : Ar wr G C D (fs ++ gs)) : Ar wr G C D fs := by
  obtain ⟨xs, ds, ho1, ho2, h3⟩ := h
  exact ⟨xs, ds, ho1, ho2, fun j f hf => h3 j f (by rw [List.getElem?_append_left (List.getElem?_eq_some_iff.1 hf).1]; exact hf)⟩
theorem Ar.push {wr : World} {G C D : Nat} {fs : List Fm} (h : Ar wr G C D fs) (f : Fm) (hl : fs.length < 64) :
    Ar ((wr.setCell ⟨D, fs.length, none⟩ (.int .i64 (if f.d then 1 else 0))).setCell ⟨C, fs.length, none⟩ (.pointer (some ⟨f.b, 0, none⟩))) G C D (fs ++ [f]) := by
  have hcd := h.cd
  obtain ⟨xs, ds, ho1, ho2, h3⟩ := h
  have l1 : xs.length = 64 := by have := ho1.1; omega
  have l2 : ds.length = 64 := by have := ho2.1; omega
  have s2 := ho2.stored fs.length (.int .i64 (if f.d then 1 else 0))
  have a1 := (Fr.of_grown_same s2.2).own ho1 (fun k hk e => by rw [obl_some, List.mem_singleton] at hk; rw [List.mem_singleton] at e; exact hcd (hk.symm.trans e))
  have s1 := a1.stored fs.length (.pointer (some ⟨f.b, 0, none⟩))
  have a2 := (Fr.of_grown_same s1.2).own s2.1 (fun k hk e => by rw [obl_some, List.mem_singleton] at hk; rw [List.mem_singleton] at e; exact hcd (e.symm.trans hk))
  refine ⟨_, _, s1.1, a2, fun j g hg => ?_⟩
  by_cases hj : j < fs.length
  · rw [List.getElem?_append_left hj] at hg
    obtain ⟨h4, h5⟩ := h3 j g hg
    rw [List.getElem?_set_ne (by omega), List.getElem?_set_ne (by omega)]
    exact ⟨h4, h5⟩
  · have hl2 := (List.getElem?_eq_some_iff.1 hg).1
    simp at hl2
    have hj2 : j = fs.length := by omega
    subst hj2
    rw [List.getElem?_append_right (Nat.le_refl _), Nat.sub_self] at hg
    simp at hg
    subst hg
    rw [List.getElem?_set_self (by omega), List.getElem?_set_self (by omega)]
    exact ⟨rfl, rfl⟩
theorem Ar.ren {wr : World} {G C D : Nat} {p q : List Fm} {f : Fm} (h : Ar wr G C D (p ++ f :: q)) (c : Nat) :
    Ar (wr.setCell ⟨C, p.length, none⟩ (.pointer (some ⟨c, 0, none⟩))) G C D (p ++ { f with b := c } :: q) := by
  have hcd := h.cd
  obtain ⟨xs, ds, ho1, ho2, h3⟩ := h
  have l1 : xs.length = 64 := by have := ho1.1; omega
  have s1 := ho1.stored p.length (.pointer (some ⟨c, 0, none⟩))
  have a2 := (Fr.of_grown_same s1.2).own ho2 (fun k hk e => by rw [obl_some, List.mem_singleton] at hk; rw [List.mem_singleton] at e; exact hcd (e.symm.trans hk))
  refine ⟨_, _, s1.1, a2, fun j g hg => ?_⟩
  by_cases hj : j = p.length
  · subst hj
    obtain ⟨h4, h5⟩ := h3 p.length f (by simp)
    have hlt := (List.getElem?_eq_some_iff.1 h4).1
    simp at hg
    subst hg
    rw [List.getElem?_set_self hlt]
    exact ⟨rfl, h5⟩
  · have hg2 : (p ++ f :: q)[j]? = some g := by
      rcases Nat.lt_or_ge j p.length with h | h
      · rw [List.getElem?_append_left h] at hg ⊢; exact hg
      · obtain ⟨m, rfl⟩ : ∃ m, j = p.length + (m + 1) := ⟨j - p.length - 1, by omega⟩
        rw [List.getElem?_append_right (by omega)] at hg ⊢
        rw [show p.length + (m + 1) - p.length = m + 1 by omega] at hg ⊢
        exact hg
    obtain ⟨h4, h5⟩ := h3 j g hg2
    rw [List.getElem?_set_ne (by omega)]
    exact ⟨h4, h5⟩

/-- a deletion under way: the path fs, what its end points to, and the blocks below -/
structure DSt (w : World) (i : Nat) (B0 : List Nat) (n C D dn : Nat) (dv : Int) (fs : List Fm) (x : Option Addr) (bs : List Nat) (wr : World) : Prop where
  ctx : AtC wr fs x
  head : Hd wr i (top fs x) n
  fr : Fr (i :: B0) [] w wr
  nd : (cblocks fs ++ bs).Nodup
  old : ∀ b ∈ cblocks fs ++ bs, b ∈ B0 ∨ w.heap.size ≤ b
  ar : Ar wr w.heap.size C D fs
  dne : Blk wr dn 3 #[.int .i64 dv]
  dnw : w.heap.size ≤ dn

theorem DSt.next {w : World} {i : Nat} {B0 : List Nat} {n C D dn : Nat} {dv : Int} {fs : List Fm} {x : Option Addr} {bs : List Nat} {wr wr' : World} (h : DSt w i B0 n C D dn dv fs x bs wr) (hb : Below wr.heap.size wr wr') : DSt w i B0 n C D dn dv fs x bs wr' :=
  ⟨h.ctx.below hb, h.head.fr (Fr.of_below [] hb) (fun h => by cases h), rem_of0 h.fr (Fr.of_below [] hb) (fun _ h => by cases h), h.nd, h.old, h.ar.below hb, h.dne.next hb, h.dnw⟩
theorem DSt.drew {w : World} {i : Nat} {B0 : List Nat} {n C D dn : Nat} {dv : Int} {fs : List Fm} {x : Option Addr} {bs : List Nat} {wr : World} (h : DSt w i B0 n C D dn dv fs x bs wr) : DSt w i B0 n C D dn dv fs x bs wr.drew := h.next (Below.refl _ _).drew
theorem AtC.blk {w : World} : ∀ {fs : List Fm} {x : Option Addr} {b : Nat}, AtC w fs x → b ∈ cblocks fs → ∃ cs, Blk w b 94 cs
  | [], _, _, _, h => by cases h
  | f :: fs, x, b, ⟨h1, h2, h3⟩, hb => by
    rcases List.mem_cons.1 hb with rfl | hb
    · exact ⟨_, h1⟩
    · rcases List.mem_append.1 hb with hb | hb
      · exact at_blk h2 hb
      · exact AtC.blk h3 hb
theorem DSt.own {w : World} {i : Nat} {B0 : List Nat} {n C D dn : Nat} {dv : Int} {fs : List Fm} {x : Option Addr} {bs : List Nat} {wr : World} (h : DSt w i B0 n C D dn dv fs x bs wr) {b : Nat} (hb : b ∈ cblocks fs ++ bs) : b ∈ i :: B0 ∨ w.heap.size ≤ b := by
  rcases h.old b hb with h1 | h1
  · exact .inl (List.mem_cons_of_mem _ h1)
  · exact .inr h1
theorem Hd.ne {w : World} {i : Nat} {r : Option Addr} {n : Nat} (h : Hd w i r n) {b : Nat} {cs : Array Value} (hb : Blk w b 94 cs) : b ≠ i := fun e => by
  subst e
  obtain ⟨db, dl, dr, h⟩ := h
  have h4 : w.heap[b]? = some (.cells cs 94 (0, 0)) := hb
  have h5 : w.heap[b]? = some (.cells _ 96 (0, 0)) := h
  rw [h4] at h5
  injection h5 with h5
  injection h5 with h5 h6
  exact absurd h6 (by decide)
theorem Nd.dn {w : World} {b dn : Nat} {cs : Array Value} {ds : Array Value} (h : Blk w b 94 cs) (hd : Blk w dn 3 ds) : b ≠ dn := fun e => by
  subst e
  have h4 : w.heap[b]? = some (.cells cs 94 (0, 0)) := h
  have h5 : w.heap[b]? = some (.cells ds 3 (0, 0)) := hd
  rw [h4] at h5
  injection h5 with h5
  injection h5 with h5 h6
  exact absurd h6 (by decide)
/-- a store into a node of the path, or of what hangs at its end: all else is as it was -/
theorem DSt.nodeFr {w : World} {i : Nat} {B0 : List Nat} {n C D dn : Nat} {dv : Int} {fs : List Fm} {x : Option Addr} {bs : List Nat} {wr : World} (h : DSt w i B0 n C D dn dv fs x bs wr) {b : Nat} {cs : Array Value} (hb : Blk wr b 94 cs) (ho : b ∈ i :: B0 ∨ w.heap.size ≤ b) (o : Nat) (u : Value) :
    Hd (wr.setCell ⟨b, o, none⟩ u) i (top fs x) n ∧ Fr (i :: B0) [] w (wr.setCell ⟨b, o, none⟩ u) ∧ Ar (wr.setCell ⟨b, o, none⟩ u) w.heap.size C D fs ∧ Blk (wr.setCell ⟨b, o, none⟩ u) dn 3 #[.int .i64 dv] ∧ Fr [b] [] wr (wr.setCell ⟨b, o, none⟩ u) := by
  have hf : Fr [b] [b] wr (wr.setCell ⟨b, o, none⟩ u) := Fr.store wr (F := [b]) (a := ⟨b, o, none⟩) (by simp) u
  have hne := h.head.ne hb
  have hnd := Nd.dn hb h.dne
  refine ⟨h.head.fr hf (fun e => hne (List.mem_singleton.1 e).symm), rem_of0 h.fr hf (fun y hy => ?_), h.ar.fr hf (fun y hy => ?_), hf.blk h.dne (fun e => hnd (List.mem_singleton.1 e).symm), ⟨hf.os, hf.tape, hf.output, hf.size, hf.block, fun _ h => by cases h⟩⟩
  · rw [List.mem_singleton.1 hy]; exact ho
  · rw [List.mem_singleton.1 hy]; exact h.ar.ne hb (by decide) (by decide)

theorem Ar.junk {wr : World} {G C D : Nat} {fs : List Fm} (h : Ar wr G C D fs) (j : Nat) (hj : fs.length ≤ j) (u : Value) : Ar (wr.setCell ⟨C, j, none⟩ u) G C D fs := by
  have hcd := h.cd
  obtain ⟨xs, ds, ho1, ho2, h3⟩ := h
  have s1 := ho1.stored j u
  have a2 := (Fr.of_grown_same s1.2).own ho2 (fun k hk e => by rw [obl_some, List.mem_singleton] at hk; rw [List.mem_singleton] at e; exact hcd (e.symm.trans hk))
  refine ⟨_, _, s1.1, a2, fun m g hg => ?_⟩
  have hm := (List.getElem?_eq_some_iff.1 hg).1
  rw [List.getElem?_set_ne (by omega)]
  exact h3 m g hg
theorem DSt.junk {w : World} {i : Nat} {B0 : List Nat} {n C D dn : Nat} {dv : Int} {fs : List Fm} {x : Option Addr} {bs : List Nat} {wr : World} (h : DSt w i B0 n C D dn dv fs x bs wr) (j : Nat) (hj : fs.length ≤ j) (u : Value)
    (hdC : dn ≠ C) (hiC : i ≠ C) : DSt w i B0 n C D dn dv fs x bs (wr.setCell ⟨C, j, none⟩ u) := by
  have hf : Fr [C] [C] wr (wr.setCell ⟨C, j, none⟩ u) := Fr.store wr (F := [C]) (a := ⟨C, j, none⟩) (by simp) u
  have hl := h.ar.lt
  refine ⟨AtC.fr h.ctx hf (fun b hb e => ?_), h.head.fr hf (fun e => hiC (List.mem_singleton.1 e)), rem_of0 h.fr hf (fun y hy => ?_), h.nd, h.old, h.ar.junk j hj u, hf.blk h.dne (fun e => hdC (List.mem_singleton.1 e)), h.dnw⟩
  · obtain ⟨cs, hk⟩ := AtC.blk h.ctx hb
    exact (h.ar.ne hk (by decide) (by decide)).1 (List.mem_singleton.1 e)
  · rw [List.mem_singleton.1 hy]; exact .inr hl.1.2
/-- the path's last node points elsewhere -/
theorem DSt.link {w : World} {i : Nat} {B0 : List Nat} {n C D dn : Nat} {dv : Int} {p : List Fm} {f : Fm} {x : Option Addr} {bs : List Nat} {wr : World} (h : DSt w i B0 n C D dn dv (p ++ [f]) x bs wr) (x' : Option Addr) :
    DSt w i B0 n C D dn dv (p ++ [f]) x' bs (wr.setCell ⟨f.b, if f.d then 2 else 1, none⟩ (.pointer x')) ∧ Fr [f.b] [] wr (wr.setCell ⟨f.b, if f.d then 2 else 1, none⟩ (.pointer x')) := by
  have hm : f.b ∈ cblocks (p ++ [f]) := by rw [cblocks_append]; simp [cblocks]
  obtain ⟨h1, h2, h3, -⟩ := (AtC_append wr p [f] x).1 h.ctx
  have hnf : Nd wr f.b f.bal (if f.d then ptr f.sib else x) (if f.d then x else ptr f.sib) f.k f.v := h2
  obtain ⟨k1, k2, k3, k4, k5⟩ := h.nodeFr hnf (h.own (List.mem_append_left _ hm)) (if f.d then 2 else 1) (.pointer x')
  have hnd := (List.nodup_append.1 h.nd).1
  rw [cblocks_append] at hnd
  simp only [cblocks, List.append_nil, List.nodup_append, List.nodup_cons, List.mem_cons] at hnd
  have hnf' : Nd (wr.setCell ⟨f.b, if f.d then 2 else 1, none⟩ (.pointer x')) f.b f.bal (if f.d then ptr f.sib else x') (if f.d then x' else ptr f.sib) f.k f.v := by
    cases hd : f.d <;> rw [hd] at hnf
    · exact Nd.setL hnf _
    · exact Nd.setR hnf _
  refine ⟨⟨(AtC_append _ p [f] x').2 ⟨AtC.fr h1 k5 fun b hb e => ?_, hnf', h3.fr k5 fun b hb e => ?_, trivial⟩, ?_, k2, h.nd, h.old, k3, k4, h.dnw⟩, k5⟩
  · rw [List.mem_singleton] at e
    exact hnd.2.2 b hb f.b (.inl rfl) e
  · rw [List.mem_singleton] at e
    exact hnd.2.1.1 (by rw [← e]; exact hb)
  · have e1 : top (p ++ [f]) x' = top (p ++ [f]) x := by rw [top_append, top_append]; rfl
    rw [e1]; exact k1
/-- the root points elsewhere -/
theorem DSt.root {w : World} {i : Nat} {B0 : List Nat} {n C D dn : Nat} {dv : Int} {x : Option Addr} {bs : List Nat} {wr : World} (h : DSt w i B0 n C D dn dv [] x bs wr) (x' : Option Addr) (hdi : dn ≠ i) (hC : i ≠ C) (hD : i ≠ D) :
    DSt w i B0 n C D dn dv [] x' bs (wr.setCell ⟨i, 0, none⟩ (.pointer x')) ∧ Fr [i] [] wr (wr.setCell ⟨i, 0, none⟩ (.pointer x')) := by
  have hf : Fr [i] [i] wr (wr.setCell ⟨i, 0, none⟩ (.pointer x')) := Fr.store wr (F := [i]) (a := ⟨i, 0, none⟩) (by simp) (.pointer x')
  obtain ⟨db, dl, dr, hh⟩ := h.head
  refine ⟨⟨trivial, ⟨db, dl, dr, hh.set 0 (.pointer x')⟩, rem_of0 h.fr hf (fun y hy => by rw [List.mem_singleton.1 hy]; exact .inl (by simp)), h.nd, h.old, h.ar.fr hf (fun y hy => by rw [List.mem_singleton.1 hy]; exact ⟨hC, hD⟩), hf.blk h.dne (fun e => hdi (List.mem_singleton.1 e)), h.dnw⟩, ⟨hf.os, hf.tape, hf.output, hf.size, hf.block, fun _ h => by cases h⟩⟩
/-- other blocks hang at the end -/
theorem DSt.hang {w : World} {i : Nat} {B0 : List Nat} {n C D dn : Nat} {dv : Int} {fs : List Fm} {x : Option Addr} {bs : List Nat} {wr : World} (h : DSt w i B0 n C D dn dv fs x bs wr) (bs' : List Nat) (h1 : (cblocks fs ++ bs').Nodup) (h2 : ∀ b ∈ cblocks fs ++ bs', b ∈ B0 ∨ w.heap.size ≤ b) : DSt w i B0 n C D dn dv fs x bs' wr :=
  { h with nd := h1, old := h2 }
/-- the last node of the path loses a level below it and becomes a part of what hangs -/
theorem DSt.lower {w : World} {i : Nat} {B0 : List Nat} {n C D dn : Nat} {dv : Int} {p : List Fm} {f : Fm} {t : T} {wr : World} (h : DSt w i B0 n C D dn dv (p ++ [f]) (ptr t) t.blocks wr) (ht : At wr t) :
    DSt w i B0 n C D dn dv p (some ⟨f.b, 0, none⟩) (f.low.put t).blocks (wr.setCell ⟨f.b, 0, none⟩ (.int .i8 f.low.bal)) ∧ At (wr.setCell ⟨f.b, 0, none⟩ (.int .i8 f.low.bal)) (f.low.put t) ∧ ptr (f.low.put t) = some ⟨f.b, 0, none⟩ := by
  have hm : f.b ∈ cblocks (p ++ [f]) := by rw [cblocks_append]; simp [cblocks]
  obtain ⟨h1, h2, h3, -⟩ := (AtC_append wr p [f] (ptr t)).1 h.ctx
  have hnf : Nd wr f.b f.bal (if f.d then ptr f.sib else ptr t) (if f.d then ptr t else ptr f.sib) f.k f.v := h2
  obtain ⟨k1, k2, k3, k4, k5⟩ := h.nodeFr hnf (h.own (List.mem_append_left _ hm)) 0 (.int .i8 f.low.bal)
  have hp : (cblocks p ++ (f.low.put t).blocks).Perm (cblocks (p ++ [f]) ++ t.blocks) := by
    rw [cblocks_append, List.append_assoc]
    exact (plug_blocks [f.low] t).append_left _
  have hnd := h.nd
  rw [cblocks_append, List.append_assoc] at hnd
  simp only [cblocks, List.append_nil, List.nodup_append, List.nodup_cons, List.cons_append, List.mem_append, List.mem_cons] at hnd
  have hnf' : Nd (wr.setCell ⟨f.b, 0, none⟩ (.int .i8 f.low.bal)) f.b f.low.bal (if f.d then ptr f.sib else ptr t) (if f.d then ptr t else ptr f.sib) f.k f.v := Nd.setB hnf _
  have hs : At (wr.setCell ⟨f.b, 0, none⟩ (.int .i8 f.low.bal)) f.sib := h3.fr k5 fun b hb e => by
    rw [List.mem_singleton] at e
    exact hnd.2.1.1 (.inl (by rw [← e]; exact hb))
  have ht' : At (wr.setCell ⟨f.b, 0, none⟩ (.int .i8 f.low.bal)) t := ht.fr k5 fun b hb e => by
    rw [List.mem_singleton] at e
    exact hnd.2.1.1 (.inr (by rw [← e]; exact hb))
  have htop : top (p ++ [f]) (ptr t) = top p (some ⟨f.b, 0, none⟩) := by rw [top_append]; rfl
  rw [htop] at k1
  refine ⟨⟨AtC.fr h1 k5 fun b hb e => ?_, k1, k2, hp.symm.nodup h.nd, fun b hb => h.old b (hp.mem_iff.1 hb), k3.take, k4, h.dnw⟩, ?_, ptr_plug [f.low] t⟩
  · rw [List.mem_singleton] at e
    exact hnd.2.2 b hb f.b (.inl rfl) e
  · exact (at_plug _ [f.low] t).2 ⟨⟨hnf', hs, trivial⟩, ht'⟩
/-- what hangs was rotated -/
theorem DSt.rem {w : World} {i : Nat} {B0 : List Nat} {n C D dn : Nat} {p : List Fm} {x : Option Addr} {S S' : T} {wr w' : World} {dv' : Int} (h : DSt w i B0 n C D dn 0 p x S.blocks wr) (hS : At wr S) (hf : Fr (dn :: S.blocks) [] wr w') (hd : Blk w' dn 3 #[.int .i64 dv']) (hn : S'.blocks.Nodup) (ho : ∀ b ∈ S'.blocks, b ∈ S.blocks ∨ wr.heap.size ≤ b)
    (hdC : dn ≠ C) (hdD : dn ≠ D) (hdi : dn ≠ i) : DSt w i B0 n C D dn dv' p x S'.blocks w' := by
  have hnd := List.nodup_append.1 h.nd
  have hsz := h.fr.size
  have hdp : ∀ b ∈ cblocks p, b ∉ dn :: S.blocks := fun b hb e => by
    rcases List.mem_cons.1 e with e | e
    · obtain ⟨cs, hk⟩ := AtC.blk h.ctx hb
      exact Nd.dn hk h.dne e
    · exact hnd.2.2 b hb b e rfl
  refine ⟨AtC.fr h.ctx hf hdp, h.head.fr hf (fun e => ?_), rem_of0 h.fr hf (fun y hy => ?_), ?_, fun b hb => ?_, h.ar.fr hf (fun y hy => ?_), hd, h.dnw⟩
  · rcases List.mem_cons.1 e with e | e
    · exact hdi e.symm
    · obtain ⟨cs, hk⟩ := at_blk hS e
      exact h.head.ne hk rfl
  · rcases List.mem_cons.1 hy with rfl | hy
    · exact .inr h.dnw
    · exact h.own (List.mem_append_right _ hy)
  · refine List.nodup_append.2 ⟨hnd.1, hn, fun a ha b hb e => ?_⟩
    rcases ho b hb with h1 | h1
    · exact hnd.2.2 a ha b h1 e
    · have := AtC.lt h.ctx a ha
      omega
  · rcases List.mem_append.1 hb with hb | hb
    · exact h.old b (List.mem_append_left _ hb)
    · rcases ho b hb with h1 | h1
      · exact h.old b (List.mem_append_right _ h1)
      · exact .inr (Nat.le_trans hsz h1)
  · rcases List.mem_cons.1 hy with rfl | hy
    · exact ⟨hdC, hdD⟩
    · obtain ⟨cs, hk⟩ := at_blk hS hy
      exact h.ar.ne hk (by decide) (by decide)
end Go.Proofs.Ytidekgmpbcnfmaa
