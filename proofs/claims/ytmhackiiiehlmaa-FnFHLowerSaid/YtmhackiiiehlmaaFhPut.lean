/- fibheap: newEntry and Enqueue; a heap in memory. -/
import Derived.Test.YtmhackiiiehlmaaFhMerge
import Derived.Test.YtmhackiiiehlmaaStep
namespace Go.Proofs.Ytmhackiiiehlmaa
set_option linter.unusedVariables false
open Go.RowKit Fh

/-- the store with a new node -/
def newS (s : St) (b : Nat) (p : Int) : St := ⟨upd s.nx b b, upd s.pv b b, upd s.ch b none, upd s.pa b none, upd s.dg b 0, upd s.ma b false, upd s.pr b p⟩
/-- the least root stands first -/
def Least (s : St) (R : List Nat) : Option Nat → Prop
  | none => R = []
  | some m => m ∈ R ∧ ∀ x ∈ R, s.pr m ≤ s.pr x
/-- a heap's nodes, whatever their trees are -/
def Nodes (s : St) (D R : List Nat) : Prop := (∃ K P, Inv s D R [] K P ∧ Agr s P D [] ∧ Ord s P D []) ∧ D.Nodup ∧ ∀ b ∈ D, Sm (s.pr b)
/-- the heap in block h; A: all nodes that ever were -/
def Hp (w : World) (h : Nat) (s : St) (A D R : List Nat) (m : Option Nat) : Prop :=
  HpAt w s A ∧ (∀ x ∈ D, x ∈ A) ∧ Nodes s D R ∧ Least s R m ∧ Blk w h 44 #[pt m, .int .u64 (D.length : Int)]
theorem Nodes.mem {s : St} {D R : List Nat} (h : Nodes s D R) : ∀ x ∈ R, x ∈ D := fun x hx => by
  obtain ⟨⟨K, P, h1, _⟩, _⟩ := h
  exact ((h1.mR x).1 (by simp [hx])).1
theorem Nodes.nx {s : St} {D R : List Nat} (h : Nodes s D R) {x : Nat} (hx : x ∈ R) : s.nx x ∈ R ∧ s.pv x ∈ R := by
  obtain ⟨⟨K, P, h1, _⟩, _⟩ := h
  obtain ⟨l, h2, hp⟩ := h1.first hx
  exact ⟨hp.mem_iff.2 (ring_nx h2.rn).2, hp.mem_iff.2 (ring_pv h2.rn)⟩
theorem blk_next {w w' : World} {b : Nat} {t : TypeId} {cs : Array Value} (h : Blk w b t cs) (hb : Below w.heap.size w w') : Blk w' b t cs := h.below hb h.lt
theorem hp_ne {w : World} {s : St} {D : List Nat} (h : HpAt w s D) {a : Nat} {t : TypeId} {cs : Array Value} (ha : Blk w a t cs) (ht : t ≠ 83) : a ∉ D := fun hm => by
  have h1 := h a hm
  unfold Blk at h1 ha
  rw [h1] at ha
  injection ha with ha
  injection ha with _ ha
  exact ht ha.symm

set_option maxRecDepth 100000 in
theorem newentry_any (p : Int) (w : World) : Calls Try.prog 38 #[.float .f64 (fl p)] w fun e w' => e = .returned (.pointer (some ⟨w.heap.size, 0, none⟩)) ∧ Blk w' w.heap.size 83 #[.int .i64 0, .bool false, .pointer (some ⟨w.heap.size, 0, none⟩), .pointer (some ⟨w.heap.size, 0, none⟩), .pointer none, .pointer none, .float .f64 (fl p)] ∧ Below w.heap.size w w' ∧ w'.heap.size = w.heap.size + 1 := by
  obtain ⟨F, hF⟩ : ∃ F, fl p = F := ⟨_, rfl⟩
  rw [hF]
  clear hF
  have hst : ∀ (w : World) (a : Addr) (x : Nat), (store a (.float .f64 x)).run Try.prog w = stored Try.prog w a (.float .f64 x) .plain := fun w a x => run_store _ w a _ _ rfl
  go_enter Try.func38, Try.ntmps38
  go_wp2_with fail
  go_ret
  exact ⟨rfl, Blk.new _ _ _, (Below.refl _ _).alloc (Nat.le_refl _) _, by simp⟩

/-- behind newEntry -/
theorem newS_at {w w' : World} {s : St} {D : List Nat} {b : Nat} {p : Int} (h : HpAt w s D) (hb : b ∉ D) (hw : Below w.heap.size w w') (hn : Blk w' b 83 #[.int .i64 0, .bool false, .pointer (some ⟨b, 0, none⟩), .pointer (some ⟨b, 0, none⟩), .pointer none, .pointer none, .float .f64 (fl p)]) : HpAt w' (newS s b p) (b :: D) := fun x hx => by
  rcases List.mem_cons.1 hx with rfl | hx
  · have e : fcells (newS s x p) x = #[.int .i64 0, .bool false, .pointer (some ⟨x, 0, none⟩), .pointer (some ⟨x, 0, none⟩), .pointer none, .pointer none, .float .f64 (fl p)] := by simp [fcells, newS, upd_same]
    rw [e]; exact hn
  · have hne := ne_mem hx hb
    have e : fcells (newS s b p) x = fcells s x := by simp [fcells, newS, upd_ne _ _ hne]
    rw [e]; exact h.below hw x hx
/-- a new node among the nodes, in a ring of its own -/
theorem enter_parts {s : St} {D R : List Nat} {b : Nat} {p : Int} {K : Nat → List Nat} {P : Nat → Option Nat} (h : Inv s D R [] K P) (ha : Agr s P D []) (ho : Ord s P D []) (hb : b ∉ D) :
    Inv (newS s b p) (b :: D) R [b] (upd K b []) (upd P b none) ∧ Agr (newS s b p) (upd P b none) (b :: D) [] ∧ Ord (newS s b p) (upd P b none) (b :: D) [] := by
  refine ⟨h.enter hb (fun x hx => ?_) (upd_same _ _ _) (upd_same _ _ _) (upd_same _ _ _) (upd_same _ _ _), fun x hx hn => ?_, fun x hx hn c hc => ?_⟩
  · have hne := ne_mem hx hb
    exact ⟨upd_ne _ _ hne, upd_ne _ _ hne, upd_ne _ _ hne, upd_ne _ _ hne⟩
  · show upd s.pa b none x = upd P b none x
    by_cases hxb : x = b
    · rw [hxb, upd_same, upd_same]
    · rw [upd_ne _ _ hxb, upd_ne _ _ hxb]
      rcases List.mem_cons.1 hx with e | e
      · exact absurd e hxb
      · exact ha x e (by simp)
  · show upd s.pr b p c ≤ upd s.pr b p x
    by_cases hxb : x = b
    · rw [hxb, upd_same] at hc; cases hc
    · rw [upd_ne _ _ hxb] at hc ⊢
      rcases List.mem_cons.1 hx with e | e
      · exact absurd e hxb
      · have hcD := h.dm x e c hc
        rw [upd_ne _ _ (ne_mem hcD hb)]
        exact ho x e (by simp) c hc
/-- what Enqueue does -/
def EnqPost (p : Int) (h : Nat) (s : St) (A D : List Nat) (w : World) (e : Ending) (w' : World) : Prop :=
  ∃ (s' : St) (R' : List Nat) (m' : Option Nat), e = .returned (.pointer (some ⟨w.heap.size, 0, none⟩)) ∧ Hp w' h s' (w.heap.size :: A) (w.heap.size :: D) R' m' ∧ s'.pr = upd s.pr w.heap.size p ∧ Fr (h :: A) (h :: w.heap.size :: A) w w'
theorem merge_nodes {s : St} {D R : List Nat} {b a : Nat} {K : Nat → List Nat} {P : Nat → Option Nat} (h : Inv s D R [b] K P) (ha : a ∈ R) : ∃ R', Inv (merge s a b) D R' [] K P ∧ R'.Perm (b :: R) ∧ a ≠ b ∧ s.nx a ∈ R ∧ s.nx b = b ∧ s.nx a ≠ s.nx b := by
  obtain ⟨l, h1, hp⟩ := h.first ha
  have hb : s.nx b = b := h.qn.1
  have hbR : b ∉ R := fun hm => (List.nodup_append.1 h.rd).2.2 b hm b (by simp) rfl
  have hn : s.nx a ∈ R := hp.mem_iff.2 (ring_nx h1.rn).2
  refine ⟨_, h1.merge, ?_, ne_mem ha hbR, hn, hb, by rw [hb]; exact ne_mem hn hbR⟩
  have e1 : (a :: [] ++ b :: l).Perm (b :: a :: l) := List.Perm.swap b a l
  exact e1.trans (List.Perm.cons b hp.symm)
theorem least_merge {s : St} {R R' : List Nat} {a b : Nat} (h : Least s R (some a)) (hp : R'.Perm (b :: R)) : Least s R' (some (lesser s a b)) := by
  refine ⟨?_, fun x hx => ?_⟩
  · rcases lesser_or s a b with e | e
    · rw [e]; exact hp.mem_iff.2 (List.mem_cons_of_mem _ h.1)
    · rw [e]; exact hp.mem_iff.2 List.mem_cons_self
  · have hl := lesser_le s a b
    rcases List.mem_cons.1 (hp.mem_iff.1 hx) with rfl | hx
    · exact hl.2
    · have := h.2 x hx; omega

theorem hp_end {w : World} {s : St} {A D R : List Nat} {m : Option Nat} {h N : Nat} {u : Value} (hat : HpAt w s A) (hsub : ∀ x ∈ D, x ∈ A) (hn : Nodes s D R) (hl : Least s R m) (hk : Blk w h 44 #[u, .int .u64 (N : Int)]) (hh : h ∉ A) (hN : D.length = N + 1) :
    Hp ((w.setCell ⟨h, 0, none⟩ (pt m)).setCell ⟨h, 1, none⟩ (.int .u64 ((N : Int) + 1))) h s A D R m := by
  refine ⟨fun b hb => ((hat b hb).other (fun e => hh (by have : b = h := e; exact this ▸ hb)) _).other (fun e => hh (by have : b = h := e; exact this ▸ hb)) _, hsub, hn, hl, ?_⟩
  have := (hk.set 0 (pt m)).set 1 (.int .u64 ((N : Int) + 1))
  rw [hN]
  exact this
set_option maxRecDepth 100000 in
set_option maxHeartbeats 2000000 in
theorem enqueue_any (p : Int) (hp : Sm p) (h : Nat) (s : St) (A D R : List Nat) (m : Option Nat) (w : World) (hh : Hp w h s A D R m) (hn : D.length ≤ 1000) :
    Calls Try.prog 19 #[.pointer (some ⟨h, 0, none⟩), .float .f64 (fl p)] w (EnqPost p h s A D w) := by
  have hNodes : Hid (Nodes s D R) := Lib.hid hh.2.2.1
  have hNodes2 : Hid (∀ x ∈ R, x ∈ D) := Lib.hid hh.2.2.1.mem
  have HSUB : Hid (∀ x ∈ D, x ∈ A) := Lib.hid hh.2.1
  obtain ⟨hat, hsub, ⟨⟨K, P, hi, ha, ho⟩, hnd, hsm⟩, hle, hk⟩ := hh
  have hbA : w.heap.size ∉ A := fun hm => Nat.lt_irrefl _ (hat.lt _ hm)
  have hbD : w.heap.size ∉ D := fun hm => hbA (hsub _ hm)
  have HBA := Lib.hid hbA
  obtain ⟨i1, i2, i3⟩ := enter_parts (p := p) hi ha ho hbD
  have hhD := hp_ne hat hk (by decide)
  have hlt := hk.lt
  have HK := Lib.hid hk
  have HNE := Lib.hid (newentry_any p w)
  have HAT := Lib.hid hat
  have HI1 := Lib.hid i1
  have HI2 := Lib.hid i2
  have HI3 := Lib.hid i3
  have HHD := Lib.hid hhD
  have HBD := Lib.hid hbD
  obtain ⟨b, hb⟩ : ∃ b, w.heap.size = b := ⟨_, rfl⟩
  obtain ⟨F, hF⟩ : ∃ F, fl p = F := ⟨_, rfl⟩
  obtain ⟨N, hN⟩ : ∃ N, D.length = N := ⟨_, rfl⟩
  have HF := Lib.hid hF
  have HN := Lib.hid hN
  have HBB := Lib.hid hb
  rw [hF, hb] at HNE
  rw [hF]
  rw [hN] at HK hn
  clear hat hsub hi ha ho hk i1 i2 i3 hhD hbD hbA hF hN hb
  have hw1 : IntKind.u64.wrap ((N : Int) + 1) = (N : Int) + 1 := by simp only [IntKind.wrap, IntKind.signed, IntKind.bits]; simp; omega
  go_enter Try.func19, Try.ntmps19
  go_wp2_with fail
  refine HNE.out.mono ?_
  rintro e w1 ⟨rfl, hn1, hb1, hs1⟩
  rw [← HF.out] at hn1
  have hbD : b ∉ D := by rw [← HBB.out]; exact HBD.out
  have hb1' : Below w.heap.size w w1 := by rw [HBB.out]; exact hb1
  have hk1 := blk_next HK.out hb1'
  have hbA : b ∉ A := by rw [← HBB.out]; exact HBA.out
  have hat1 := newS_at HAT.out hbA hb1' hn1
  have hsub1 : ∀ x ∈ b :: D, x ∈ b :: A := fun x hx => by
    rcases List.mem_cons.1 hx with rfl | hx
    · simp
    · exact List.mem_cons_of_mem _ (HSUB.out x hx)
  have HSUB1 := Lib.hid hsub1
  have hhb : h ∉ b :: A := by
    rw [List.mem_cons, not_or]
    exact ⟨fun e => by rw [← HBB.out] at e; omega, HHD.out⟩
  have i1 := HI1.out
  have i2 := HI2.out
  have i3 := HI3.out
  rw [HBB.out] at i1 i2 i3
  have hfr1 : Fr (h :: A) (h :: b :: A) w w1 := ⟨hb1'.os, hb1'.tape, hb1'.output, hb1'.size, fun k hk _ => hb1'.block k hk, fun k hk => by
    rcases List.mem_cons.1 hk with rfl | hk
    · exact .inl (by simp)
    · rcases List.mem_cons.1 hk with rfl | hk
      · exact .inr (by rw [HBB.out]; exact Nat.le_refl _)
      · exact .inl (List.mem_cons_of_mem _ hk)⟩
  have hnd1 : (b :: D).Nodup := List.nodup_cons.2 ⟨hbD, hnd⟩
  have hsm1 : ∀ x ∈ b :: D, Sm ((newS s b p).pr x) := fun x hx => by
    show Sm (upd s.pr b p x)
    rcases List.mem_cons.1 hx with rfl | hx
    · rw [upd_same]; exact hp
    · rw [upd_ne _ _ (ne_mem hx hbD)]; exact hsm x hx
  have c0 := hk1.cell 0 rfl
  have c1 := hk1.cell 1 rfl
  have f0 := hk1.free 0
  have f1 := hk1.free 1
  have HHB := Lib.hid hhb
  have HFR := Lib.hid hfr1
  have HND := Lib.hid hnd1
  have HSM := Lib.hid hsm1
  have HAT1 := Lib.hid hat1
  have HK1 := Lib.hid hk1
  cases m with
  | none =>
    have hR : R = [] := hle
    subst hR
    have c0 : w1.cell? ⟨h, 0, none⟩ = some (.pointer none) := c0
    have HN0 : Hid (Nodes (newS s b p) (b :: D) [b]) := Lib.hid ⟨⟨_, _, i1.swap, i2, i3⟩, hnd1, hsm1⟩
    clear hn1 hat1 hfr1 hnd1 hsm1 i1 i2 i3 hle hnd hsm hbD hbA hsub1 hhb hb1 hb1' hs1 hk1 hlt
    go_wp2_with fail
    refine (mergefirst_any b w1).mono ?_
    rintro e w2 ⟨rfl, rfl⟩
    go_wp2_with fail
    go_ret
    refine ⟨newS s b p, [b], some b, by rw [HBB.out]; rfl, ?_, by rw [HBB.out]; rfl, ?_⟩
    · rw [HBB.out]
      have hl0 : Least (newS s b p) [b] (some b) := ⟨by simp, fun x hx => by rw [List.mem_singleton.1 hx]; exact Int.le_refl _⟩
      have hfin := hp_end HAT1.out HSUB1.out HN0.out hl0 HK1.out HHB.out (by rw [List.length_cons, HN.out])
      exact hfin
    · rw [HBB.out]
      exact (HFR.out.trans (Fr.store _ (F := h :: b :: A) (a := ⟨h, 0, none⟩) (by simp) _)).trans (Fr.store _ (F := h :: b :: A) (a := ⟨h, 1, none⟩) (by simp) _)
  | some a =>
    have c0 : w1.cell? ⟨h, 0, none⟩ = some (.pointer (some ⟨a, 0, none⟩)) := c0
    obtain ⟨R', j1, j2, j3, j4, j5, j6⟩ := merge_nodes i1 hle.1
    have haD : a ∈ D := ((hNodes.out).mem a hle.1)
    have HMG := Lib.hid (mergelists_any (newS s b p) (b :: A) a b w1 hat1 (List.mem_cons_of_mem _ (HSUB.out _ haD)) List.mem_cons_self j3 (List.mem_cons_of_mem _ (HSUB.out _ (hNodes2.out _ j4))) (by rw [j5]; exact List.mem_cons_self) j6 (hsm1 a (List.mem_cons_of_mem _ haD)) (hsm1 b List.mem_cons_self))
    have HN0 : Hid (Nodes (merge (newS s b p) a b) (b :: D) R') := Lib.hid ⟨⟨_, _, j1, i2, i3⟩, hnd1, hsm1⟩
    have hle2 : Least (newS s b p) R (some a) := ⟨hle.1, fun x hx => by
      show upd s.pr b p a ≤ upd s.pr b p x
      rw [upd_ne _ _ (ne_mem haD hbD), upd_ne _ _ (ne_mem (hNodes.out.mem x hx) hbD)]
      exact hle.2 x hx⟩
    have HLE : Hid (Least (merge (newS s b p) a b) R' (some (lesser (newS s b p) a b))) := Lib.hid (least_merge hle2 j2)
    clear hn1 hat1 hfr1 hnd1 hsm1 i1 i2 i3 hle hle2 hnd hsm hbD hbA hsub1 hhb hb1 hb1' hs1 hk1 hlt j1 j2 j3 j4 j5 j6 haD
    go_wp2_with fail
    refine HMG.out.mono ?_
    rintro e w2 ⟨rfl, hat2, hf2⟩
    obtain ⟨m2, hm2⟩ : ∃ m2, lesser (newS s b p) a b = m2 := ⟨_, rfl⟩
    rw [hm2] at HLE ⊢
    have hk2 := hf2.blk HK1.out HHB.out
    have d0 := hk2.cell 0 rfl
    have d1 := hk2.cell 1 rfl
    have g0 := hk2.free 0
    have g1 := hk2.free 1
    have HAT2 := Lib.hid hat2
    have HF2 := Lib.hid hf2
    have HK2 := Lib.hid hk2
    clear hat2 hf2 hk2 hm2 c0 c1 f0 f1
    go_wp2_with fail
    go_ret
    refine ⟨merge (newS s b p) a b, R', some m2, by rw [HBB.out]; rfl, ?_, by rw [HBB.out]; rfl, ?_⟩
    · rw [HBB.out]
      have hfin := hp_end HAT2.out HSUB1.out HN0.out HLE.out HK2.out HHB.out (by rw [List.length_cons, HN.out])
      exact hfin
    · rw [HBB.out]
      have h3 : Fr (h :: b :: A) (h :: b :: A) w1 w2 := HF2.out.weaken (fun k hk => List.mem_cons_of_mem _ hk) (fun k hk => by
        rcases List.mem_cons.1 hk with rfl | hk
        · exact .inr (by simp)
        · exact .inl hk)
      exact ((HFR.out.trans h3).trans (Fr.store _ (F := h :: b :: A) (a := ⟨h, 0, none⟩) (by simp) _)).trans (Fr.store _ (F := h :: b :: A) (a := ⟨h, 1, none⟩) (by simp) _)
end Go.Proofs.Ytmhackiiiehlmaa
