/- insertBalance at the turning point of an insertion (printed by gen_avturn.py). -/
import Derived.Test.YtidekgmpbcnfmaaAvSt3
namespace Go.Proofs.Ytidekgmpbcnfmaa
set_option linter.unusedVariables false
open Go.RowKit Avm

theorem turn11 (w : World) (i D b0 n G : Nat) (pre : List Fm) (fb : Nat) (fbal : Int) (fsib : T) (fk fv : Int) (gb : Nat) (gsib : T) (gk gv : Int) (R : T) (wr : World)
    (h : RotSt w i D b0 n G pre fb (T.nd fb fbal fsib fk fv (T.nd gb 1 gsib gk gv R)) wr) (ho : gb = b0 ∨ w.heap.size ≤ gb) (hof : fb = b0 ∨ w.heap.size ≤ fb) :
    Calls Try.prog 50 #[.pointer (some ⟨fb, 0, none⟩), .int .i64 1] wr fun e w' => e = .returned (.pointer (some ⟨gb, 0, none⟩)) ∧ RotSt w i D b0 n G pre fb (insBal true (T.nd fb fbal fsib fk fv (T.nd gb 1 gsib gk gv R))) w' := by
  have hnd := h.nd
  rw [List.nodup_append] at hnd
  have hn1 := hnd.2.1
  simp only [T.blocks, List.nodup_cons, List.nodup_append, List.mem_append, List.mem_cons] at hn1
  have he : insBal true (T.nd fb fbal fsib fk fv (T.nd gb 1 gsib gk gv R)) = T.nd gb 0 (T.nd fb 0 fsib fk fv gsib) gk gv R := by simp [insBal]
  have hs := h.sub
  have hne : fb ≠ gb := fun e => hn1.1 (by simp [e])
  refine (ib11_any fb gb fbal (ptr fsib) (ptr gsib) (ptr R) fk fv gk gv wr hs.1 hs.2.2.1 hne).mono ?_
  rintro e w' ⟨rfl, k1, k2, hf⟩
  refine ⟨rfl, ?_⟩
  rw [he]
  refine h.turn hf (fun x hx => ?_) ?_ ?_ ⟨gb, rfl, ho⟩
  · simp only [List.mem_cons, List.not_mem_nil, or_false] at hx
    rcases hx with rfl | rfl
    · exact ⟨by simp [T.blocks], hof⟩
    · exact ⟨by simp [T.blocks], ho⟩
  · have q1 : At w' fsib := hs.2.1.fr hf fun x hx e => by
      simp only [List.mem_cons, List.not_mem_nil, or_false] at e
      rcases e with rfl | rfl
      · exact hn1.1 (by simp [hx])
      · exact hn1.2.2.2 _ hx _ (.inl rfl) rfl
    have q2 : At w' gsib := hs.2.2.2.1.fr hf fun x hx e => by
      simp only [List.mem_cons, List.not_mem_nil, or_false] at e
      rcases e with rfl | rfl
      · exact hn1.1 (by simp [hx])
      · exact hn1.2.2.1.1 (.inl hx)
    have q3 : At w' R := hs.2.2.2.2.fr hf fun x hx e => by
      simp only [List.mem_cons, List.not_mem_nil, or_false] at e
      rcases e with rfl | rfl
      · exact hn1.1 (by simp [hx])
      · exact hn1.2.2.1.1 (.inr hx)
    exact ⟨k2, ⟨k1, q1, q2⟩, q3⟩
  · simp only [T.blocks, List.cons_append, List.append_assoc]
    exact (List.Perm.swap _ _ _).trans ((List.perm_middle.symm).cons _)
theorem turn01 (w : World) (i D b0 n G : Nat) (pre : List Fm) (fb : Nat) (fbal : Int) (fsib : T) (fk fv : Int) (gb : Nat) (gsib : T) (gk gv : Int) (R : T) (wr : World)
    (h : RotSt w i D b0 n G pre fb (T.nd fb fbal (T.nd gb (-1) R gk gv gsib) fk fv fsib) wr) (ho : gb = b0 ∨ w.heap.size ≤ gb) (hof : fb = b0 ∨ w.heap.size ≤ fb) :
    Calls Try.prog 50 #[.pointer (some ⟨fb, 0, none⟩), .int .i64 0] wr fun e w' => e = .returned (.pointer (some ⟨gb, 0, none⟩)) ∧ RotSt w i D b0 n G pre fb (insBal false (T.nd fb fbal (T.nd gb (-1) R gk gv gsib) fk fv fsib)) w' := by
  have hnd := h.nd
  rw [List.nodup_append] at hnd
  have hn1 := hnd.2.1
  simp only [T.blocks, List.nodup_cons, List.nodup_append, List.mem_append, List.mem_cons] at hn1
  have he : insBal false (T.nd fb fbal (T.nd gb (-1) R gk gv gsib) fk fv fsib) = T.nd gb 0 R gk gv (T.nd fb 0 gsib fk fv fsib) := by simp [insBal]
  have hs := h.sub
  have hne : fb ≠ gb := fun e => hn1.1 (by simp [e])
  refine (ib01_any fb gb fbal (ptr fsib) (ptr gsib) (ptr R) fk fv gk gv wr hs.1 hs.2.1.1 hne).mono ?_
  rintro e w' ⟨rfl, k1, k2, hf⟩
  refine ⟨rfl, ?_⟩
  rw [he]
  refine h.turn hf (fun x hx => ?_) ?_ ?_ ⟨gb, rfl, ho⟩
  · simp only [List.mem_cons, List.not_mem_nil, or_false] at hx
    rcases hx with rfl | rfl
    · exact ⟨by simp [T.blocks], hof⟩
    · exact ⟨by simp [T.blocks], ho⟩
  · have q1 : At w' fsib := hs.2.2.fr hf fun x hx e => by
      simp only [List.mem_cons, List.not_mem_nil, or_false] at e
      rcases e with rfl | rfl
      · exact hn1.1 (by simp [hx])
      · exact hn1.2.2.2 _ (.inl rfl) _ hx rfl
    have q2 : At w' gsib := hs.2.1.2.2.fr hf fun x hx e => by
      simp only [List.mem_cons, List.not_mem_nil, or_false] at e
      rcases e with rfl | rfl
      · exact hn1.1 (by simp [hx])
      · exact hn1.2.1.1 (.inr hx)
    have q3 : At w' R := hs.2.1.2.1.fr hf fun x hx e => by
      simp only [List.mem_cons, List.not_mem_nil, or_false] at e
      rcases e with rfl | rfl
      · exact hn1.1 (by simp [hx])
      · exact hn1.2.1.1 (.inl hx)
    exact ⟨k2, q3, ⟨k1, q2, q1⟩⟩
  · simp only [T.blocks, List.cons_append, List.append_assoc]
    exact ((List.perm_middle).cons _).trans (List.Perm.swap _ _ _)
theorem turn12 (w : World) (i D b0 n G : Nat) (pre : List Fm) (fb : Nat) (fbal : Int) (fsib : T) (fk fv : Int) (gb : Nat) (nb : Int) (gsib : T) (gk gv : Int) (m : Nat) (mb mk mv : Int) (ml mr : T) (wr : World)
    (h : RotSt w i D b0 n G pre fb (T.nd fb fbal fsib fk fv (T.nd gb nb (T.nd m mb ml mk mv mr) gk gv gsib)) wr) (hp : (insBal true (T.nd fb fbal fsib fk fv (T.nd gb nb (T.nd m mb ml mk mv mr) gk gv gsib))).blocks.Perm (T.nd fb fbal fsib fk fv (T.nd gb nb (T.nd m mb ml mk mv mr) gk gv gsib)).blocks) (hnb : nb ≠ 1) (hmb : -1 ≤ mb ∧ mb ≤ 1) (ho : gb = b0 ∨ w.heap.size ≤ gb) (hof : fb = b0 ∨ w.heap.size ≤ fb) (hom : m = b0 ∨ w.heap.size ≤ m) :
    Calls Try.prog 50 #[.pointer (some ⟨fb, 0, none⟩), .int .i64 1] wr fun e w' => e = .returned (.pointer (some ⟨m, 0, none⟩)) ∧ RotSt w i D b0 n G pre fb (insBal true (T.nd fb fbal fsib fk fv (T.nd gb nb (T.nd m mb ml mk mv mr) gk gv gsib))) w' := by
  have hnd := h.nd
  rw [List.nodup_append] at hnd
  have hn1 := hnd.2.1
  have he : insBal true (T.nd fb fbal fsib fk fv (T.nd gb nb (T.nd m mb ml mk mv mr) gk gv gsib)) = T.nd m 0 (T.nd fb (aS1 mb) fsib fk fv ml) mk mv (T.nd gb (aN1 mb) mr gk gv gsib) := by
    simp only [insBal]
    rw [if_neg hnb]
    rfl
  have hs := h.sub
  have hmem1 : fb ∉ (T.nd gb nb (T.nd m mb ml mk mv mr) gk gv gsib).blocks := fun e => (List.nodup_cons.1 hn1).1 (by simp only [List.mem_append]; exact .inr e)
  have hn2 : (T.nd gb nb (T.nd m mb ml mk mv mr) gk gv gsib).blocks.Nodup := (List.nodup_append.1 (List.nodup_cons.1 hn1).2).2.1
  have hdis : ∀ x ∈ fsib.blocks, x ∉ (T.nd gb nb (T.nd m mb ml mk mv mr) gk gv gsib).blocks := fun x hx e => (List.nodup_append.1 (List.nodup_cons.1 hn1).2).2.2 x hx x e rfl
  have hfs : fb ∉ fsib.blocks := fun e => (List.nodup_cons.1 hn1).1 (by simp only [List.mem_append]; exact .inl e)
  simp only [T.blocks, List.nodup_cons, List.nodup_append, List.mem_append, List.mem_cons] at hn2 hmem1 hdis
  have h1 : fb ≠ gb := fun e => hmem1 (by simp [e])
  have h2 : fb ≠ m := fun e => hmem1 (by simp [e])
  have h3 : gb ≠ m := fun e => hn2.1 (by simp [e])
  have hsg := hs.2.2
  have hsm := hsg.2.1
  refine (ib12_any fb gb m fbal nb mb (ptr fsib) (ptr gsib) (ptr ml) (ptr mr) fk fv gk gv mk mv wr hs.1 hsg.1 hsm.1 h1 h2 h3 hnb hmb).mono ?_
  rintro e w' ⟨rfl, k1, k2, k3, hf⟩
  refine ⟨rfl, ?_⟩
  refine h.turn hf (fun x hx => ?_) ?_ hp ?_
  · simp only [List.mem_cons, List.not_mem_nil, or_false] at hx
    rcases hx with rfl | rfl | rfl
    · exact ⟨by simp [T.blocks], hof⟩
    · exact ⟨by simp [T.blocks], ho⟩
    · exact ⟨by simp [T.blocks], hom⟩
  · rw [he]
    have q1 : At w' fsib := hs.2.1.fr hf fun x hx e => by
      simp only [List.mem_cons, List.not_mem_nil, or_false] at e
      rcases e with rfl | rfl | rfl
      · exact hfs hx
      · exact hdis _ hx (by simp)
      · exact hdis _ hx (by simp)
    have q2 : At w' gsib := hsg.2.2.fr hf fun x hx e => by
      simp only [List.mem_cons, List.not_mem_nil, or_false] at e
      rcases e with rfl | rfl | rfl
      · exact hmem1 (by simp [hx])
      · exact hn2.1 (by simp [hx])
      · exact hn2.2.2.2 _ (.inl rfl) _ hx rfl
    have q3 : At w' ml := hsm.2.1.fr hf fun x hx e => by
      simp only [List.mem_cons, List.not_mem_nil, or_false] at e
      rcases e with rfl | rfl | rfl
      · exact hmem1 (by simp [hx])
      · exact hn2.1 (by simp [hx])
      · exact hn2.2.1.1 (by simp [hx])
    have q4 : At w' mr := hsm.2.2.fr hf fun x hx e => by
      simp only [List.mem_cons, List.not_mem_nil, or_false] at e
      rcases e with rfl | rfl | rfl
      · exact hmem1 (by simp [hx])
      · exact hn2.1 (by simp [hx])
      · exact hn2.2.1.1 (by simp [hx])
    exact ⟨k3, ⟨k1, q1, q3⟩, ⟨k2, q4, q2⟩⟩
  · rw [he]; exact ⟨m, rfl, hom⟩
theorem turn02 (w : World) (i D b0 n G : Nat) (pre : List Fm) (fb : Nat) (fbal : Int) (fsib : T) (fk fv : Int) (gb : Nat) (nb : Int) (gsib : T) (gk gv : Int) (m : Nat) (mb mk mv : Int) (ml mr : T) (wr : World)
    (h : RotSt w i D b0 n G pre fb (T.nd fb fbal (T.nd gb nb gsib gk gv (T.nd m mb mr mk mv ml)) fk fv fsib) wr) (hp : (insBal false (T.nd fb fbal (T.nd gb nb gsib gk gv (T.nd m mb mr mk mv ml)) fk fv fsib)).blocks.Perm (T.nd fb fbal (T.nd gb nb gsib gk gv (T.nd m mb mr mk mv ml)) fk fv fsib).blocks) (hnb : nb ≠ -1) (hmb : -1 ≤ mb ∧ mb ≤ 1) (ho : gb = b0 ∨ w.heap.size ≤ gb) (hof : fb = b0 ∨ w.heap.size ≤ fb) (hom : m = b0 ∨ w.heap.size ≤ m) :
    Calls Try.prog 50 #[.pointer (some ⟨fb, 0, none⟩), .int .i64 0] wr fun e w' => e = .returned (.pointer (some ⟨m, 0, none⟩)) ∧ RotSt w i D b0 n G pre fb (insBal false (T.nd fb fbal (T.nd gb nb gsib gk gv (T.nd m mb mr mk mv ml)) fk fv fsib)) w' := by
  have hnd := h.nd
  rw [List.nodup_append] at hnd
  have hn1 := hnd.2.1
  have he : insBal false (T.nd fb fbal (T.nd gb nb gsib gk gv (T.nd m mb mr mk mv ml)) fk fv fsib) = T.nd m 0 (T.nd gb (aN0 mb) gsib gk gv mr) mk mv (T.nd fb (aS0 mb) ml fk fv fsib) := by
    simp only [insBal]
    rw [if_neg hnb]
    rfl
  have hs := h.sub
  have hmem1 : fb ∉ (T.nd gb nb gsib gk gv (T.nd m mb mr mk mv ml)).blocks := fun e => (List.nodup_cons.1 hn1).1 (by simp only [List.mem_append]; exact .inl e)
  have hn2 : (T.nd gb nb gsib gk gv (T.nd m mb mr mk mv ml)).blocks.Nodup := (List.nodup_append.1 (List.nodup_cons.1 hn1).2).1
  have hdis : ∀ x ∈ fsib.blocks, x ∉ (T.nd gb nb gsib gk gv (T.nd m mb mr mk mv ml)).blocks := fun x hx e => (List.nodup_append.1 (List.nodup_cons.1 hn1).2).2.2 x e x hx rfl
  have hfs : fb ∉ fsib.blocks := fun e => (List.nodup_cons.1 hn1).1 (by simp only [List.mem_append]; exact .inr e)
  simp only [T.blocks, List.nodup_cons, List.nodup_append, List.mem_append, List.mem_cons] at hn2 hmem1 hdis
  have h1 : fb ≠ gb := fun e => hmem1 (by simp [e])
  have h2 : fb ≠ m := fun e => hmem1 (by simp [e])
  have h3 : gb ≠ m := fun e => hn2.1 (by simp [e])
  have hsg := hs.2.1
  have hsm := hsg.2.2
  refine (ib02_any fb gb m fbal nb mb (ptr fsib) (ptr gsib) (ptr ml) (ptr mr) fk fv gk gv mk mv wr hs.1 hsg.1 hsm.1 h1 h2 h3 hnb hmb).mono ?_
  rintro e w' ⟨rfl, k1, k2, k3, hf⟩
  refine ⟨rfl, ?_⟩
  refine h.turn hf (fun x hx => ?_) ?_ hp ?_
  · simp only [List.mem_cons, List.not_mem_nil, or_false] at hx
    rcases hx with rfl | rfl | rfl
    · exact ⟨by simp [T.blocks], hof⟩
    · exact ⟨by simp [T.blocks], ho⟩
    · exact ⟨by simp [T.blocks], hom⟩
  · rw [he]
    have q1 : At w' fsib := hs.2.2.fr hf fun x hx e => by
      simp only [List.mem_cons, List.not_mem_nil, or_false] at e
      rcases e with rfl | rfl | rfl
      · exact hfs hx
      · exact hdis _ hx (by simp)
      · exact hdis _ hx (by simp)
    have q2 : At w' gsib := hsg.2.1.fr hf fun x hx e => by
      simp only [List.mem_cons, List.not_mem_nil, or_false] at e
      rcases e with rfl | rfl | rfl
      · exact hmem1 (by simp [hx])
      · exact hn2.1 (by simp [hx])
      · exact hn2.2.2.2 _ hx _ (.inl rfl) rfl
    have q3 : At w' ml := hsm.2.2.fr hf fun x hx e => by
      simp only [List.mem_cons, List.not_mem_nil, or_false] at e
      rcases e with rfl | rfl | rfl
      · exact hmem1 (by simp [hx])
      · exact hn2.1 (by simp [hx])
      · exact hn2.2.2.1.1 (by simp [hx])
    have q4 : At w' mr := hsm.2.1.fr hf fun x hx e => by
      simp only [List.mem_cons, List.not_mem_nil, or_false] at e
      rcases e with rfl | rfl | rfl
      · exact hmem1 (by simp [hx])
      · exact hn2.1 (by simp [hx])
      · exact hn2.2.2.1.1 (by simp [hx])
    exact ⟨k3, ⟨k2, q2, q4⟩, ⟨k1, q3, q1⟩⟩
  · rw [he]; exact ⟨m, rfl, hom⟩

theorem turn_any (w : World) (i D b0 n G : Nat) (k v : Int) (pre : List Fm) (f g : Fm) (r2 : List Fm) (Q : Nat) (wr : World) (h : InsBot w i D b0 n G k v (pre ++ (f :: g :: r2).map Fm.adj) Q wr) (hv : VC (f :: g :: r2) 0) (h0 : ∀ x ∈ g :: r2, x.bal = 0) (hs : f.adj.bal < -1 ∨ 1 < f.adj.bal) :
    Calls Try.prog 50 #[.pointer (some ⟨f.b, 0, none⟩), .int .i64 (if f.d then 1 else 0)] wr fun e w' => ∃ S c, e = .returned (.pointer (some ⟨c, 0, none⟩)) ∧ ptr S = some ⟨c, 0, none⟩ ∧ S = insBal f.d (plug ((f :: g :: r2).map Fm.adj) (lf Q k v)) ∧ RotSt w i D b0 n G pre f.b S w' := by
  have hr := h.rot
  obtain ⟨t1, t2, t3, t4⟩ := ins_turn f g r2 Q k v hv h0 hs
  have hof := h.own f.adj (by simp)
  have hog := h.own g.adj (by simp)
  have hgz := h0 g (by simp)
  have hRR : V (plug (r2.map Fm.adj) (lf Q k v)) := (ins_R r2 Q k v hv.2.2.2.2.2.2.2.2 fun x hx => h0 x (by simp [hx])).1
  obtain ⟨m, hm, hom⟩ := root_own (w := w) (b0 := b0) (r2.map Fm.adj) (lf Q k v) (fun x hx => h.own x (by simp only [List.map_cons, List.mem_append, List.mem_cons]; exact .inr (.inr (.inr hx)))) ⟨Q, rfl, .inr h.ownQ⟩
  obtain ⟨fb, fbal, fd, fsib, fk, fv⟩ := f
  obtain ⟨gb, gbal, gd, gsib, gk, gv⟩ := g
  simp only at hgz
  subst hgz
  obtain ⟨R, hR⟩ : ∃ R, plug (r2.map Fm.adj) (lf Q k v) = R := ⟨_, rfl⟩
  have hT : plug ((Fm.mk fb fbal fd fsib fk fv :: Fm.mk gb 0 gd gsib gk gv :: r2).map Fm.adj) (lf Q k v) = Fm.put (Fm.adj (Fm.mk fb fbal fd fsib fk fv)) (Fm.put (Fm.adj (Fm.mk gb 0 gd gsib gk gv)) R) := by rw [← hR]; rfl
  rw [hT] at hr t4 ⊢
  rw [hR] at hm hRR
  clear t1 t2 t3 hT hR hv h0 hs h
  cases R with
  | nil => cases hm
  | nd m' mb ml mk mv mr =>
    injection hm with hm
    injection hm with hm
    subst hm
    cases fd <;> cases gd
    · exact (turn01 w i D b0 n G pre fb _ fsib fk fv gb gsib gk gv _ wr hr hog hof).mono fun e w' ⟨he, h1⟩ => ⟨_, gb, he, by simp [insBal, Fm.put, Fm.adj, ptr], rfl, h1⟩
    · exact (turn02 w i D b0 n G pre fb _ fsib fk fv gb _ gsib gk gv m' mb mk mv mr ml wr hr t4 (by simp [Fm.adj]) ⟨hRR.2.1, hRR.2.2.1⟩ hog hof hom).mono fun e w' ⟨he, h1⟩ => ⟨_, m', he, by simp [insBal, Fm.put, Fm.adj, ptr], rfl, h1⟩
    · exact (turn12 w i D b0 n G pre fb _ fsib fk fv gb _ gsib gk gv m' mb mk mv ml mr wr hr t4 (by simp [Fm.adj]) ⟨hRR.2.1, hRR.2.2.1⟩ hog hof hom).mono fun e w' ⟨he, h1⟩ => ⟨_, m', he, by simp [insBal, Fm.put, Fm.adj, ptr], rfl, h1⟩
    · exact (turn11 w i D b0 n G pre fb _ fsib fk fv gb gsib gk gv _ wr hr hog hof).mono fun e w' ⟨he, h1⟩ => ⟨_, gb, he, by simp [insBal, Fm.put, Fm.adj, ptr], rfl, h1⟩
end Go.Proofs.Ytidekgmpbcnfmaa
