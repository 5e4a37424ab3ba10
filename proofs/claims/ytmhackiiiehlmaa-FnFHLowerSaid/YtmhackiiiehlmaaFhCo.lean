/- fibheap: the consolidation in memory: the nodes, the slice of trees by degrees, the slice of roots to be visited, the heap's own block. -/
import Derived.Test.YtmhackiiiehlmaaFhPut
import Derived.Laws.OwnMore
namespace Go.Proofs.Ytmhackiiiehlmaa
set_option linter.unusedVariables false
open Go.RowKit Fh

theorem nx_mem' {n p : Nat → Nat} {L : List Nat} (h : Ring n p L) {x : Nat} (hx : x ∈ L) : n x ∈ L := by
  obtain ⟨l1, l2, rfl⟩ := List.append_of_mem hx
  have := (ring_nx (ring_turn h)).2
  simp at this ⊢
  rcases this with e | e | e <;> simp [e]
def ptrs (l : List Nat) : List Value := l.map fun b => .pointer (some ⟨b, 0, none⟩)
structure CoMem (wp : World) (hq B : Nat) (A : List Nat) (N : Nat) (tv : Value) (Lr : List Nat) (s : St) (T : List (Option Nat)) (m : Nat) (tq : Option Addr) (tc : Nat) (w : World) : Prop where
  hat : HpAt w s A
  ot : w.ownsRow B 41 1 (.slice tq T.length tc) T.length (T.map pt)
  ov : w.ownsRow B 41 1 tv Lr.length (ptrs Lr)
  ap : ∀ k ∈ obl (.slice tq T.length tc), k ∉ obl tv
  hk : Blk w hq 44 #[.pointer (some ⟨m, 0, none⟩), .int .u64 (N : Int)]
  fr : Fr (hq :: A) (hq :: A) wp w
  hh : hq ∉ A
  hB : wp.heap.size = B
section
variable {wp : World} {hq B : Nat} {A : List Nat} {N : Nat} {tv : Value} {Lr : List Nat} {s : St} {T : List (Option Nat)} {m : Nat} {tq : Option Addr} {tc : Nat} {w : World}
theorem CoMem.tnode (h : CoMem wp hq B A N tv Lr s T m tq tc w) {b : Nat} (hb : b ∈ A) : (Value.slice tq T.length tc).ownBlock ≠ some b := row_blk h.ot (h.hat b hb) (by decide)
theorem CoMem.vnode (h : CoMem wp hq B A N tv Lr s T m tq tc w) {b : Nat} (hb : b ∈ A) : tv.ownBlock ≠ some b := row_blk h.ov (h.hat b hb) (by decide)
theorem CoMem.store (h : CoMem wp hq B A N tv Lr s T m tq tc w) {b i : Nat} {v : Value} {s' : St} (hb : b ∈ A) (hs : HpAt (w.setCell ⟨b, i, none⟩ v) s' A) : CoMem wp hq B A N tv Lr s' T m tq tc (w.setCell ⟨b, i, none⟩ v) :=
  ⟨hs, ownsRow_setCell_other h.ot (a := ⟨b, i, none⟩) (h.tnode hb) v, ownsRow_setCell_other h.ov (a := ⟨b, i, none⟩) (h.vnode hb) v, h.ap, h.hk.other (a := ⟨b, i, none⟩) (fun e => h.hh (by have : hq = b := e; exact this ▸ hb)) v, h.fr.trans (Fr.store _ (F := hq :: A) (a := ⟨b, i, none⟩) (List.mem_cons_of_mem _ hb) v), h.hh, h.hB⟩
theorem CoMem.sN (h : CoMem wp hq B A N tv Lr s T m tq tc w) {b : Nat} (hb : b ∈ A) (v : Nat) : CoMem wp hq B A N tv Lr (setN s b v) T m tq tc (w.setCell ⟨b, 2, none⟩ (.pointer (some ⟨v, 0, none⟩))) := h.store hb (h.hat.sN hb v)
theorem CoMem.sP (h : CoMem wp hq B A N tv Lr s T m tq tc w) {b : Nat} (hb : b ∈ A) (v : Nat) : CoMem wp hq B A N tv Lr (setP s b v) T m tq tc (w.setCell ⟨b, 3, none⟩ (.pointer (some ⟨v, 0, none⟩))) := h.store hb (h.hat.sP hb v)
theorem CoMem.sC (h : CoMem wp hq B A N tv Lr s T m tq tc w) {b : Nat} (hb : b ∈ A) (v : Option Nat) : CoMem wp hq B A N tv Lr (setC s b v) T m tq tc (w.setCell ⟨b, 4, none⟩ (pt v)) := h.store hb (h.hat.sC hb v)
theorem CoMem.sA (h : CoMem wp hq B A N tv Lr s T m tq tc w) {b : Nat} (hb : b ∈ A) (v : Option Nat) : CoMem wp hq B A N tv Lr (setA s b v) T m tq tc (w.setCell ⟨b, 5, none⟩ (pt v)) := h.store hb (h.hat.sA hb v)
theorem CoMem.sD (h : CoMem wp hq B A N tv Lr s T m tq tc w) {b : Nat} (hb : b ∈ A) (v : Nat) : CoMem wp hq B A N tv Lr (setD s b v) T m tq tc (w.setCell ⟨b, 0, none⟩ (.int .i64 (v : Int))) := h.store hb (h.hat.sD hb v)
theorem CoMem.sM (h : CoMem wp hq B A N tv Lr s T m tq tc w) {b : Nat} (hb : b ∈ A) (v : Bool) : CoMem wp hq B A N tv Lr (setM s b v) T m tq tc (w.setCell ⟨b, 1, none⟩ (.bool v)) := h.store hb (h.hat.sM hb v)
theorem CoMem.drewN (h : CoMem wp hq B A N tv Lr s T m tq tc w) (n : Nat) : CoMem wp hq B A N tv Lr s T m tq tc (w.drewN n) := ⟨h.hat, h.ot, h.ov, h.ap, h.hk, h.fr.drewN n, h.hh, h.hB⟩
theorem CoMem.drew (h : CoMem wp hq B A N tv Lr s T m tq tc w) : CoMem wp hq B A N tv Lr s T m tq tc w.drew := ⟨h.hat, h.ot, h.ov, h.ap, h.hk, h.fr.drew, h.hh, h.hB⟩
theorem Fr.new {F : List Nat} {w0 w w' : World} {G G' : List Nat} (h : Fr F F w0 w) (k : Fr G G' w w') (hG : ∀ b ∈ G, w0.heap.size ≤ b) : Fr F F w0 w' :=
  ⟨k.os.trans h.os, k.tape.trans h.tape, k.output.trans h.output, Nat.le_trans h.size k.size, fun i hi h1 => (k.block i (Nat.lt_of_lt_of_le hi h.size) (fun e => by have := hG i e; omega)).trans (h.block i hi h1), fun i hi => .inl hi⟩
theorem fr_cell (w : World) (a : Addr) (u : Value) : Fr [a.block] [a.block] w (w.setCell a u) := Fr.store w (F := [a.block]) (by simp) u
/-- the slice of trees has a place set -/
theorem CoMem.tset {g d : Nat} (h : CoMem wp hq B A N tv Lr s T m (some ⟨g, 0, none⟩) tc w) (o : Option Nat) : CoMem wp hq B A N tv Lr s (T.set d o) m (some ⟨g, 0, none⟩) tc (w.setCell ⟨g, d, none⟩ (pt o)) := by
  have hg := own_lt h.ot g (by rw [obl_some]; simp)
  have hgA : ∀ b ∈ A, b ≠ g := fun b hb e => h.tnode hb (by subst e; rfl)
  have hgh : hq ≠ g := fun e => row_blk h.ot h.hk (by decide) (by subst e; rfl)
  have hgv : tv.ownBlock ≠ some g := fun e => h.ap g (by rw [obl_some]; simp) (mem_obl.2 e)
  refine ⟨fun b hb => (h.hat b hb).other (a := ⟨g, d, none⟩) (hgA b hb) _, ?_, ownsRow_setCell_other h.ov (a := ⟨g, d, none⟩) hgv _, ?_, h.hk.other (a := ⟨g, d, none⟩) hgh _, h.fr.new (fr_cell w ⟨g, d, none⟩ (pt o)) (fun b hb => ?_), h.hh, h.hB⟩
  · rw [List.length_set, List.map_set]
    exact (h.ot.stored d (pt o)).1
  · rw [List.length_set]; exact h.ap
  · rw [List.mem_singleton.1 hb, h.hB]; exact hg.2
/-- the heap's least root is set -/
theorem CoMem.hset (h : CoMem wp hq B A N tv Lr s T m tq tc w) (a : Nat) : CoMem wp hq B A N tv Lr s T a tq tc (w.setCell ⟨hq, 0, none⟩ (.pointer (some ⟨a, 0, none⟩))) :=
  ⟨fun b hb => (h.hat b hb).other (a := ⟨hq, 0, none⟩) (fun e => h.hh (by have : b = hq := e; exact this ▸ hb)) _,
   ownsRow_setCell_other h.ot (a := ⟨hq, 0, none⟩) (row_blk h.ot h.hk (by decide)) _, ownsRow_setCell_other h.ov (a := ⟨hq, 0, none⟩) (row_blk h.ov h.hk (by decide)) _, h.ap,
   h.hk.set 0 (.pointer (some ⟨a, 0, none⟩)), h.fr.trans (Fr.store _ (F := hq :: A) (a := ⟨hq, 0, none⟩) (by simp) _), h.hh, h.hB⟩
/-- a call that writes nodes -/
theorem CoMem.call (h : CoMem wp hq B A N tv Lr s T m tq tc w) {s' : St} {w' : World} (hs : HpAt w' s' A) (hf : Fr A A w w') : CoMem wp hq B A N tv Lr s' T m tq tc w' :=
  ⟨hs, hf.own h.ot (fun k hk hm => h.tnode hm (mem_obl.1 hk)), hf.own h.ov (fun k hk hm => h.vnode hm (mem_obl.1 hk)), h.ap, hf.blk h.hk h.hh, h.fr.trans (hf.weaken (fun k hk => List.mem_cons_of_mem _ hk) (fun k hk => by
    rcases List.mem_cons.1 hk with rfl | hk
    · exact .inr (by simp)
    · exact .inl hk)), h.hh, h.hB⟩
/-- the slice of trees has grown -/
theorem CoMem.grow (h : CoMem wp hq B A N tv Lr s T m tq tc w) {g c : Nat} {w' : World} (ho : w'.ownsRow B 41 1 (.slice (some ⟨g, 0, none⟩) (T.length + 1) c) (T.length + 1) (T.map pt ++ [.pointer none])) (hf : Fr (obl (.slice tq T.length tc)) [g] w w') : CoMem wp hq B A N tv Lr s (T ++ [none]) m (some ⟨g, 0, none⟩) c w' := by
  refine ⟨fun b hb => hf.blk (h.hat b hb) (fun e => h.tnode hb (mem_obl.1 e)), ?_, hf.own h.ov (fun k hk hm => h.ap k hm hk), fun k hk hm => ?_, hf.blk h.hk (fun e => row_blk h.ot h.hk (by decide) (mem_obl.1 e)), h.fr.new hf (fun b hb => ?_), h.hh, h.hB⟩
  · rw [List.length_append, List.map_append]; exact ho
  · rw [obl_some, List.mem_singleton] at hk
    subst hk
    rcases hf.next k (by simp) with e | e
    · exact h.ap k e hm
    · have := (own_lt h.ov k hm).1; omega
  · rw [h.hB]; exact (own_lt h.ot b hb).2
theorem CoMem.cell (h : CoMem wp hq B A N tv Lr s T m tq tc w) {d : Nat} {o : Option Nat} (hd : T[d]? = some o) : ∃ g, tq = some ⟨g, 0, none⟩ ∧ w.cell? ⟨g, d, none⟩ = some (pt o) ∧ w.frozen? ⟨g, d, none⟩ = false ∧ d < T.length := by
  have hlt := (List.getElem?_eq_some_iff.1 hd).1
  rcases h.ot.2 with ⟨e, h0⟩ | ⟨g, cap, cur, e, _⟩
  · omega
  · injection e with e1 e2 e3
    subst e1 e3
    refine ⟨g, rfl, ?_, h.ot.frozenAt d, hlt⟩
    rw [h.ot.cellAt d (by omega), List.getElem?_map, hd]
    rfl
theorem CoMem.vcell (h : CoMem wp hq B A N tv Lr s T m tq tc w) {i x : Nat} (hx : Lr[i]? = some x) : ∃ g c, tv = .slice (some ⟨g, 0, none⟩) Lr.length c ∧ w.cell? ⟨g, i, none⟩ = some (.pointer (some ⟨x, 0, none⟩)) ∧ i < Lr.length := by
  have hlt := (List.getElem?_eq_some_iff.1 hx).1
  rcases h.ov.2 with ⟨e, h0⟩ | ⟨g, cap, cur, e, _⟩
  · omega
  · subst e
    refine ⟨g, cap, rfl, ?_, hlt⟩
    have := h.ov.cellAt i (by omega)
    rw [this]
    unfold ptrs
    rw [List.getElem?_map, hx]
    rfl
end
/-- the consolidation under way, in plain words -/
def CoLog (D : List Nat) (q : Nat → Int) (s : St) (T : List (Option Nat)) (U : List Nat) (m : Nat) (c : Option Nat) : Prop :=
  (∃ R, Con s D R T U m c) ∧ s.pr = q ∧ T.length ≤ D.length + 1 ∧ m ∈ D
section
variable {D : List Nat} {q : Nat → Int} {s : St} {T : List (Option Nat)} {U : List Nat} {m : Nat} {c : Option Nat}
theorem nodup_le {l : List Nat} : ∀ {L : List Nat}, l.Nodup → (∀ x ∈ l, x ∈ L) → l.length ≤ L.length := by
  induction l with
  | nil => intro L _ _; simp
  | cons a l ih =>
    intro L hn hs
    obtain ⟨h1, h2⟩ := List.nodup_cons.1 hn
    have ha := hs a (by simp)
    have h3 := ih (L := L.erase a) h2 (fun x hx => (List.mem_erase_of_ne (ne_mem hx h1)).2 (hs x (List.mem_cons_of_mem _ hx)))
    rw [List.length_erase_of_mem ha] at h3
    have := List.length_pos_of_mem ha
    simp only [List.length_cons]
    omega
/-- a degree is no more than there are nodes -/
theorem con_dg {R : List Nat} (h : Con s D R T U m c) {b : Nat} (hb : b ∈ R) : b ∈ D ∧ s.dg b ≤ D.length := by
  obtain ⟨K, P, hi, -, -⟩ := h.iv
  have hbD := ((hi.mR b).1 (by simp [hb])).1
  refine ⟨hbD, ?_⟩
  rw [hi.dg b hbD]
  exact nodup_le (hi.kd b hbD) (fun x hx => ((hi.mK b hbD x).1 hx).1)
theorem CoLog.next {u : Nat} (h : CoLog D q s T (u :: U) m none) : CoLog D q s T U m (some u) := by
  obtain ⟨⟨R, h1⟩, h2⟩ := h
  exact ⟨⟨R, con_next h1⟩, h2⟩
theorem CoLog.dgx {x : Nat} (h : CoLog D q s T U m (some x)) : x ∈ D ∧ s.dg x ≤ D.length := by
  obtain ⟨⟨R, h1⟩, h2⟩ := h
  exact con_dg h1 (h1.cr x rfl).1
theorem CoLog.grow {x : Nat} (h : CoLog D q s T U m (some x)) (hl : T.length ≤ s.dg x) : CoLog D q s (T ++ [none]) U m (some x) := by
  have hd := h.dgx
  obtain ⟨⟨R, h1⟩, h2, h3, h4⟩ := h
  exact ⟨⟨R, con_grow h1⟩, h2, by rw [List.length_append]; simp; omega, h4⟩
theorem CoLog.place {x : Nat} (h : CoLog D q s T U m (some x)) (hl : s.dg x < T.length) : CoLog D q s (T.set (s.dg x) (some x)) U (if q x ≤ q m then x else m) none := by
  have hd := h.dgx
  obtain ⟨⟨R, h1⟩, h2, h3, h4⟩ := h
  refine ⟨⟨R, ?_⟩, h2, by rw [List.length_set]; exact h3, ?_⟩
  · rw [← h2]; exact con_place h1 hl
  · split
    · exact hd.1
    · exact h4
/-- what is known of two trees of one degree: t is put above y -/
structure Joins (D : List Nat) (s : St) (t y : Nat) : Prop where
  ne : t ≠ y
  tD : t ∈ D
  yD : y ∈ D
  nD : s.nx y ∈ D
  pD : s.pv y ∈ D
  ny : s.nx y ≠ y
  py : s.pv y ≠ y
  ch : s.ch t = none ∨ ∃ c, s.ch t = some c ∧ c ∈ D ∧ c ≠ y ∧ (solo (out s y) y).nx c ∈ D ∧ (solo (out s y) y).nx c ≠ y
  dg : s.dg t ≤ D.length
theorem CoLog.join {x o : Nat} (h : CoLog D q s T U m (some x)) (ho : T[s.dg x]? = some (some o)) :
    ∃ t y, (t = if q o < q x then o else x) ∧ (y = if q o < q x then x else o) ∧ o ∈ D ∧ Joins D s t y ∧ CoLog D q (linkS (solo (out s y) y) t y) (T.set (s.dg x) none) U m (some t) ∧ cnt (T.set (s.dg x) none) + 1 = cnt T := by
  obtain ⟨⟨R, h1⟩, h2, h3, h4⟩ := h
  obtain ⟨o1, o2, o3, o4⟩ := h1.tr _ _ ho
  obtain ⟨c1, c2⟩ := h1.cr x rfl
  have hj := con_join h1 ho
  rw [← h2]
  obtain ⟨t, ht⟩ : ∃ t, (if s.pr o < s.pr x then o else x) = t := ⟨_, rfl⟩
  obtain ⟨y, hy⟩ : ∃ y, (if s.pr o < s.pr x then x else o) = y := ⟨_, rfl⟩
  simp only [ht, hy] at hj
  obtain ⟨hty, R', hj⟩ := hj
  have htR : t ∈ R := by rw [← ht]; split <;> assumption
  have hyR : y ∈ R := by rw [← hy]; split <;> assumption
  obtain ⟨K, P, hi, ha, hod⟩ := h1.iv
  obtain ⟨l, hi2, hp⟩ := hi.first hyR
  have htl : t ∈ l := by
    rcases List.mem_cons.1 (hp.mem_iff.1 htR) with e | e
    · exact absurd e hty
    · exact e
  have hnd : (y :: l).Nodup := by have := hi2.rd; rwa [List.append_nil] at this
  have hlD : ∀ z ∈ y :: l, z ∈ D := fun z hz => ((hi2.mR z).1 (by rw [List.append_nil]; exact hz)).1
  have htD := hlD t (List.mem_cons_of_mem _ htl)
  cases l with
  | nil => cases htl
  | cons z l =>
    obtain ⟨-, hnz, hpz⟩ := out_ring hi2.rn hnd
    have hyz := (List.nodup_cons.1 hnd).1
    refine ⟨t, y, ht.symm, hy.symm, (con_dg h1 o1).1, ⟨hty, htD, hlD y (by simp), hlD _ (by rw [hnz]; simp), hlD _ (List.mem_cons_of_mem _ hpz), fun e => hyz (by rw [← hnz.symm.trans e]; simp), fun e => hyz (by rw [← e]; exact hpz), ?_, (con_dg h1 htR).2⟩, ⟨⟨R', hj⟩, ?_, by rw [List.length_set]; exact h3, h4⟩, cnt_set ho⟩
    · cases hc : s.ch t with
      | none => exact .inl rfl
      | some c =>
        right
        rw [hi.ch t htD] at hc
        cases hk : K t with
        | nil => rw [hk] at hc; cases hc
        | cons c' kl =>
          rw [hk] at hc
          have hcc : c' = c := by simpa using hc
          subst hcc
          have hcK : c' ∈ K t := by rw [hk]; simp
          have hap := hi2.apart htD
          have hcy : c' ≠ y := fun e => hap c' hcK (by rw [e]; simp)
          have hnc : s.nx c' ∈ K t := nx_mem' (hi.kn t htD) hcK
          have e1 : (solo (out s y) y).nx c' = s.nx c' := by
            unfold solo out outN
            simp only
            rw [upd_ne _ _ hcy, upd_ne _ _ (fun e => hap c' hcK (by rw [e, List.append_nil]; exact List.mem_cons_of_mem _ hpz))]
          refine ⟨c', rfl, ((hi.mK t htD c').1 hcK).1, hcy, ?_, ?_⟩
          · rw [e1]; exact ((hi.mK t htD _).1 hnc).1
          · rw [e1]; exact fun e => hap _ hnc (by rw [e]; simp)
    · rw [linkS_pr]; rfl
end
/-- x put under t, store by store -/
theorem link_stores (s : St) (t y : Nat) (hny : s.nx y ≠ y) (hpy : s.pv y ≠ y) :
    setN (setP (setN (setP s (s.nx y) (s.pv y)) (s.pv y) (s.nx y)) y y) y y = solo (out s y) y := by
  unfold setN setP solo out outN outP; rfl
theorem link_none {s : St} {t y : Nat} (h : s.ch t = none) (hty : t ≠ y) : setD (setM (setA (setC s t (some y)) y (some t)) y false) t (s.dg t + 1) = linkS s t y := by
  unfold linkS; rw [h]; rfl
theorem link_some {s : St} {t y c : Nat} (h : s.ch t = some c) : setD (setM (setA (setC (merge s c y) t (some (lesser s c y))) y (some t)) y false) t (s.dg t + 1) = linkS s t y := by
  unfold linkS; rw [h]; rfl
end Go.Proofs.Ytmhackiiiehlmaa
