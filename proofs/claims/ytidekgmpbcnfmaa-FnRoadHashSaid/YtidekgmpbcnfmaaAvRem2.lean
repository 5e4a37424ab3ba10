/- removeBalance of an AVL tree, at whole trees (printed by gen_avrem2.py). -/
import Derived.Test.YtidekgmpbcnfmaaAvRem
namespace Go.Proofs.Ytidekgmpbcnfmaa
set_option linter.unusedVariables false
open Go.RowKit Avm

/-- what removeBalance makes of the tree S, whose heavy side has height h -/
def RemPost (w : World) (dn : Nat) (S : T) (h : Nat) (e : Ending) (w' : World) : Prop :=
  ∃ (S' : T) (stop : Bool) (c : Nat), e = .returned (.pointer (some ⟨c, 0, none⟩)) ∧ ptr S' = some ⟨c, 0, none⟩ ∧ At w' S' ∧ S'.blocks.Nodup ∧ (∀ b ∈ S'.blocks, b ∈ S.blocks ∨ w.heap.size ≤ b) ∧ V S' ∧ S'.toL = S.toL ∧
    Blk w' dn 3 #[.int .i64 (if stop then 1 else 0)] ∧ S'.h + (if stop then 0 else 1) = h + 1 ∧ Fr (dn :: S.blocks) [] w w'

set_option maxHeartbeats 1000000 in
theorem rembal0_any (s dn : Nat) (sb : Int) (a r : T) (k v : Int) (w : World) (h : At w (T.nd s sb a k v r)) (hnd : (T.nd s sb a k v r).blocks.Nodup) (hh : r.h = a.h + 2) (va : V a) (vr : V r) (hd : Blk w dn 3 #[.int .i64 0]) (hdn : dn ∉ (T.nd s sb a k v r).blocks) :
    Calls Try.prog 52 #[.pointer (some ⟨s, 0, none⟩), .int .i64 0, .pointer (some ⟨dn, 0, none⟩)] w (RemPost w dn (T.nd s sb a k v r) r.h) := by
  have hlt := h.lt
  cases r with
  | nil => simp [T.h] at hh
  | nd n nb c k2 v2 e =>
    obtain ⟨g1, g2, g3, g4, g5⟩ := vr
    have hn1 := hnd
    simp only [T.blocks, List.nodup_cons, List.nodup_append, List.mem_append, List.mem_cons, not_or] at hn1
    simp only [T.blocks, List.mem_append, List.mem_cons, not_or] at hdn hlt
    have hsn : s ≠ n := fun e => by simp [T.blocks, e] at hnd
    have hsl : s < w.heap.size := hlt s (.inl rfl)
    have hdl := hd.lt
    have hsd : s ≠ dn := fun e => hdn.1 e.symm
    simp only [T.h] at hh
    have hb : nb = 1 ∨ nb = 0 ∨ nb = -1 := by omega
    rcases hb with rfl | rfl | rfl
    · refine (rb01_any s n dn sb (ptr a) (ptr c) (ptr e) k v k2 v2 w h.1 h.2.2.1 hsn).mono ?_
      rintro e' w' ⟨rfl, k1, k2', hf⟩
      have hs' : ∀ (t : T), At w t → (∀ b ∈ t.blocks, b ≠ s) → At w' t := fun t ht hb => ht.fr hf fun b hb' e1 => by
        have := hb b hb'
        simp only [List.mem_cons, List.not_mem_nil, or_false] at e1
        exact this e1
      have nA : ∀ b ∈ a.blocks, b ≠ s ∧ b ≠ dn := fun b hb => ⟨fun e1 => by subst e1; simp [T.blocks, hb] at hnd, fun e1 => by subst e1; simp [hb] at hdn⟩
      have nC : ∀ b ∈ c.blocks, b ≠ s ∧ b ≠ dn := fun b hb => ⟨fun e1 => by subst e1; simp [T.blocks, hb] at hnd, fun e1 => by subst e1; simp [hb] at hdn⟩
      have nE : ∀ b ∈ e.blocks, b ≠ s ∧ b ≠ dn := fun b hb => ⟨fun e1 => by subst e1; simp [T.blocks, hb] at hnd, fun e1 => by subst e1; simp [hb] at hdn⟩
      have qa := hs' a h.2.1 fun b hb => (nA b hb).1
      have qc := hs' c h.2.2.2.1 fun b hb => (nC b hb).1
      have qe := hs' e h.2.2.2.2 fun b hb => (nE b hb).1
      refine ⟨T.nd w.heap.size 0 (.nd s 0 a k v c) k2 v2 e, false, w.heap.size, rfl, rfl, ⟨k2', ⟨k1, qa, qc⟩, qe⟩, ?_, ?_, ?_, by simp [T.toL], hf.blk hd (by simp; exact fun e1 => hsd e1.symm), ?_, hf.weaken (fun x hx => by simp only [List.mem_cons, List.not_mem_nil, or_false] at hx; rw [hx]; simp [T.blocks]) (fun x hx => by cases hx)⟩
      · have hN : w.heap.size ∉ (T.nd s sb a k v (T.nd n (1) c k2 v2 e)).blocks := fun hm => absurd (h.lt _ hm) (Nat.lt_irrefl _)
        have hmm := hnd
        simp only [T.blocks, List.cons_append, List.nodup_cons, List.nodup_append, List.mem_cons, List.mem_append, not_or] at hmm hN ⊢
        grind
      · intro b hb
        simp only [T.blocks, List.mem_cons, List.mem_append] at hb ⊢
        have : b = w.heap.size → w.heap.size ≤ b := fun e1 => by omega
        rcases hb with hb | (hb | hb | hb) | hb <;> first | exact .inr (this hb) | (left; simp [hb])
      · refine ⟨?_, ?_, ?_, ⟨?_, ?_, ?_, va, g4⟩, g5⟩ <;> (first | omega | (simp only [T.h]; omega) | (simp only [T.h] at *; omega))
      · simp only [T.h] at *
        simp
        omega
    · refine (rb03_any s n dn sb (ptr a) (ptr c) (ptr e) k v k2 v2 w h.1 h.2.2.1 hsn hd hsd).mono ?_
      rintro e' w' ⟨rfl, k1, k2', k3, hf⟩
      have hs' : ∀ (t : T), At w t → (∀ b ∈ t.blocks, b ≠ s ∧ b ≠ dn) → At w' t := fun t ht hb => ht.fr hf fun b hb' e1 => by
        have := hb b hb'
        simp only [List.mem_cons, List.not_mem_nil, or_false] at e1
        rcases e1 with e1 | e1
        · exact this.1 e1
        · exact this.2 e1
      have nA : ∀ b ∈ a.blocks, b ≠ s ∧ b ≠ dn := fun b hb => ⟨fun e1 => by subst e1; simp [T.blocks, hb] at hnd, fun e1 => by subst e1; simp [hb] at hdn⟩
      have nC : ∀ b ∈ c.blocks, b ≠ s ∧ b ≠ dn := fun b hb => ⟨fun e1 => by subst e1; simp [T.blocks, hb] at hnd, fun e1 => by subst e1; simp [hb] at hdn⟩
      have nE : ∀ b ∈ e.blocks, b ≠ s ∧ b ≠ dn := fun b hb => ⟨fun e1 => by subst e1; simp [T.blocks, hb] at hnd, fun e1 => by subst e1; simp [hb] at hdn⟩
      have qa := hs' a h.2.1 fun b hb => nA b hb
      have qc := hs' c h.2.2.2.1 fun b hb => nC b hb
      have qe := hs' e h.2.2.2.2 fun b hb => nE b hb
      refine ⟨T.nd w.heap.size (-1) (.nd s 1 a k v c) k2 v2 e, true, w.heap.size, rfl, rfl, ⟨k2', ⟨k1, qa, qc⟩, qe⟩, ?_, ?_, ?_, by simp [T.toL], k3, ?_, hf.weaken (fun x hx => by simp only [List.mem_cons, List.not_mem_nil, or_false] at hx; rcases hx with rfl | rfl <;> simp [T.blocks]) (fun x hx => by cases hx)⟩
      · have hN : w.heap.size ∉ (T.nd s sb a k v (T.nd n (0) c k2 v2 e)).blocks := fun hm => absurd (h.lt _ hm) (Nat.lt_irrefl _)
        have hmm := hnd
        simp only [T.blocks, List.cons_append, List.nodup_cons, List.nodup_append, List.mem_cons, List.mem_append, not_or] at hmm hN ⊢
        grind
      · intro b hb
        simp only [T.blocks, List.mem_cons, List.mem_append] at hb ⊢
        have : b = w.heap.size → w.heap.size ≤ b := fun e1 => by omega
        rcases hb with hb | (hb | hb | hb) | hb <;> first | exact .inr (this hb) | (left; simp [hb])
      · refine ⟨?_, ?_, ?_, ⟨?_, ?_, ?_, va, g4⟩, g5⟩ <;> (first | omega | (simp only [T.h]; omega) | (simp only [T.h] at *; omega))
      · simp only [T.h] at *
        simp
        omega
    · cases c with
      | nil => simp only [T.h] at g1; omega
      | nd m mb ml mk mv mr =>
        obtain ⟨q1, q2, q3, q4, q5⟩ := g4
        have hsm : s ≠ m := fun e => by simp [T.blocks, e] at hnd
        have hml : m < w.heap.size := hlt m (.inr (.inr (.inr (.inl (by simp [T.blocks])))))
        have hmd : m ≠ dn := fun e => by subst e; simp [T.blocks] at hdn
        refine (rb02_any s n m dn sb mb (ptr a) (ptr e) (ptr ml) (ptr mr) k v k2 v2 mk mv w h.1 h.2.2.1 h.2.2.2.1.1 hsn hsm ⟨q2, q3⟩).mono ?_
        rintro e' w' ⟨rfl, k1, k2', k3, hf⟩
        have hs' : ∀ (t : T), At w t → (∀ b ∈ t.blocks, b ≠ s ∧ b ≠ m) → At w' t := fun t ht hb => ht.fr hf fun b hb' e1 => by
          have := hb b hb'
          simp only [List.mem_cons, List.not_mem_nil, or_false] at e1
          rcases e1 with e1 | e1
          · exact this.1 e1
          · exact this.2 e1
        have hmm := hnd
        simp only [T.blocks] at hmm
        have qa := hs' a h.2.1 fun b hb => ⟨fun e1 => by subst e1; simp [hb] at hmm, fun e1 => by subst e1; simp [hb, List.nodup_append] at hmm <;> grind⟩
        have qe := hs' e h.2.2.2.2 fun b hb => ⟨fun e1 => by subst e1; simp [hb] at hmm, fun e1 => by subst e1; simp [hb, List.nodup_append] at hmm <;> grind⟩
        have qml := hs' ml h.2.2.2.1.2.1 fun b hb => ⟨fun e1 => by subst e1; simp [hb] at hmm, fun e1 => by subst e1; simp [hb, List.nodup_append] at hmm <;> grind⟩
        have qmr := hs' mr h.2.2.2.1.2.2 fun b hb => ⟨fun e1 => by subst e1; simp [hb] at hmm, fun e1 => by subst e1; simp [hb, List.nodup_append] at hmm <;> grind⟩
        refine ⟨T.nd m 0 (.nd s (aS1 mb) a k v ml) mk mv (.nd w.heap.size (aN1 mb) mr k2 v2 e), false, m, rfl, rfl, ⟨k3, ⟨k1, qa, qml⟩, ⟨k2', qmr, qe⟩⟩, ?_, ?_, ?_, by simp [T.toL], hf.blk hd (by simp; exact ⟨fun e1 => hsd e1.symm, fun e1 => hmd e1.symm⟩), ?_, hf.weaken (fun x hx => by simp only [List.mem_cons, List.not_mem_nil, or_false] at hx; rcases hx with rfl | rfl <;> simp [T.blocks]) (fun x hx => by cases hx)⟩
        · have hN : w.heap.size ∉ (T.nd s sb a k v (T.nd n (-1) (.nd m mb ml mk mv mr) k2 v2 e)).blocks := fun hm => absurd (h.lt _ hm) (Nat.lt_irrefl _)
          simp only [T.blocks, List.cons_append, List.nodup_cons, List.nodup_append, List.mem_cons, List.mem_append, not_or] at hmm hN ⊢
          grind
        · intro b hb
          simp only [T.blocks, List.mem_cons, List.mem_append] at hb ⊢
          have : b = w.heap.size → w.heap.size ≤ b := fun e1 => by omega
          grind
        · have e1 : aS1 mb = aS1 mb := rfl
          simp only [T.h] at *
          refine ⟨?_, ?_, ?_, ⟨?_, ?_, ?_, va, q4⟩, ⟨?_, ?_, ?_, q5, g5⟩⟩ <;> (first | omega | (simp only [T.h, aS1, aN1, aS0, aN0]; (repeat (split)) <;> omega) | (simp only [T.h]; omega))
        · simp only [T.h] at *
          simp
          omega

set_option maxHeartbeats 1000000 in
theorem rembal1_any (s dn : Nat) (sb : Int) (a r : T) (k v : Int) (w : World) (h : At w (T.nd s sb r k v a)) (hnd : (T.nd s sb r k v a).blocks.Nodup) (hh : r.h = a.h + 2) (va : V a) (vr : V r) (hd : Blk w dn 3 #[.int .i64 0]) (hdn : dn ∉ (T.nd s sb r k v a).blocks) :
    Calls Try.prog 52 #[.pointer (some ⟨s, 0, none⟩), .int .i64 1, .pointer (some ⟨dn, 0, none⟩)] w (RemPost w dn (T.nd s sb r k v a) r.h) := by
  have hlt := h.lt
  cases r with
  | nil => simp [T.h] at hh
  | nd n nb e k2 v2 c =>
    obtain ⟨g1, g2, g3, g4, g5⟩ := vr
    have hn1 := hnd
    simp only [T.blocks, List.nodup_cons, List.nodup_append, List.mem_append, List.mem_cons, not_or] at hn1
    simp only [T.blocks, List.mem_append, List.mem_cons, not_or] at hdn hlt
    have hsn : s ≠ n := fun e => by simp [T.blocks, e] at hnd
    have hsl : s < w.heap.size := hlt s (.inl rfl)
    have hdl := hd.lt
    have hsd : s ≠ dn := fun e => hdn.1 e.symm
    simp only [T.h] at hh
    have hb : nb = -1 ∨ nb = 0 ∨ nb = 1 := by omega
    rcases hb with rfl | rfl | rfl
    · refine (rb11_any s n dn sb (ptr a) (ptr c) (ptr e) k v k2 v2 w h.1 h.2.1.1 hsn).mono ?_
      rintro e' w' ⟨rfl, k1, k2', hf⟩
      have hs' : ∀ (t : T), At w t → (∀ b ∈ t.blocks, b ≠ s) → At w' t := fun t ht hb => ht.fr hf fun b hb' e1 => by
        have := hb b hb'
        simp only [List.mem_cons, List.not_mem_nil, or_false] at e1
        exact this e1
      have nA : ∀ b ∈ a.blocks, b ≠ s ∧ b ≠ dn := fun b hb => ⟨fun e1 => by subst e1; simp [T.blocks, hb] at hnd, fun e1 => by subst e1; simp [hb] at hdn⟩
      have nC : ∀ b ∈ c.blocks, b ≠ s ∧ b ≠ dn := fun b hb => ⟨fun e1 => by subst e1; simp [T.blocks, hb] at hnd, fun e1 => by subst e1; simp [hb] at hdn⟩
      have nE : ∀ b ∈ e.blocks, b ≠ s ∧ b ≠ dn := fun b hb => ⟨fun e1 => by subst e1; simp [T.blocks, hb] at hnd, fun e1 => by subst e1; simp [hb] at hdn⟩
      have qa := hs' a h.2.2 fun b hb => (nA b hb).1
      have qc := hs' c h.2.1.2.2 fun b hb => (nC b hb).1
      have qe := hs' e h.2.1.2.1 fun b hb => (nE b hb).1
      refine ⟨T.nd w.heap.size 0 e k2 v2 (.nd s 0 c k v a), false, w.heap.size, rfl, rfl, ⟨k2', qe, ⟨k1, qc, qa⟩⟩, ?_, ?_, ?_, by simp [T.toL], hf.blk hd (by simp; exact fun e1 => hsd e1.symm), ?_, hf.weaken (fun x hx => by simp only [List.mem_cons, List.not_mem_nil, or_false] at hx; rw [hx]; simp [T.blocks]) (fun x hx => by cases hx)⟩
      · have hN : w.heap.size ∉ (T.nd s sb (T.nd n (-1) e k2 v2 c) k v a).blocks := fun hm => absurd (h.lt _ hm) (Nat.lt_irrefl _)
        have hmm := hnd
        simp only [T.blocks, List.cons_append, List.nodup_cons, List.nodup_append, List.mem_cons, List.mem_append, not_or] at hmm hN ⊢
        grind
      · intro b hb
        simp only [T.blocks, List.mem_cons, List.mem_append] at hb ⊢
        have : b = w.heap.size → w.heap.size ≤ b := fun e1 => by omega
        rcases hb with hb | hb | (hb | hb | hb) <;> first | exact .inr (this hb) | (left; simp [hb])
      · refine ⟨?_, ?_, ?_, g4, ⟨?_, ?_, ?_, g5, va⟩⟩ <;> (first | omega | (simp only [T.h]; omega) | (simp only [T.h] at *; omega))
      · simp only [T.h] at *
        simp
        omega
    · refine (rb13_any s n dn sb (ptr a) (ptr c) (ptr e) k v k2 v2 w h.1 h.2.1.1 hsn hd hsd).mono ?_
      rintro e' w' ⟨rfl, k1, k2', k3, hf⟩
      have hs' : ∀ (t : T), At w t → (∀ b ∈ t.blocks, b ≠ s ∧ b ≠ dn) → At w' t := fun t ht hb => ht.fr hf fun b hb' e1 => by
        have := hb b hb'
        simp only [List.mem_cons, List.not_mem_nil, or_false] at e1
        rcases e1 with e1 | e1
        · exact this.1 e1
        · exact this.2 e1
      have nA : ∀ b ∈ a.blocks, b ≠ s ∧ b ≠ dn := fun b hb => ⟨fun e1 => by subst e1; simp [T.blocks, hb] at hnd, fun e1 => by subst e1; simp [hb] at hdn⟩
      have nC : ∀ b ∈ c.blocks, b ≠ s ∧ b ≠ dn := fun b hb => ⟨fun e1 => by subst e1; simp [T.blocks, hb] at hnd, fun e1 => by subst e1; simp [hb] at hdn⟩
      have nE : ∀ b ∈ e.blocks, b ≠ s ∧ b ≠ dn := fun b hb => ⟨fun e1 => by subst e1; simp [T.blocks, hb] at hnd, fun e1 => by subst e1; simp [hb] at hdn⟩
      have qa := hs' a h.2.2 fun b hb => nA b hb
      have qc := hs' c h.2.1.2.2 fun b hb => nC b hb
      have qe := hs' e h.2.1.2.1 fun b hb => nE b hb
      refine ⟨T.nd w.heap.size 1 e k2 v2 (.nd s (-1) c k v a), true, w.heap.size, rfl, rfl, ⟨k2', qe, ⟨k1, qc, qa⟩⟩, ?_, ?_, ?_, by simp [T.toL], k3, ?_, hf.weaken (fun x hx => by simp only [List.mem_cons, List.not_mem_nil, or_false] at hx; rcases hx with rfl | rfl <;> simp [T.blocks]) (fun x hx => by cases hx)⟩
      · have hN : w.heap.size ∉ (T.nd s sb (T.nd n (0) e k2 v2 c) k v a).blocks := fun hm => absurd (h.lt _ hm) (Nat.lt_irrefl _)
        have hmm := hnd
        simp only [T.blocks, List.cons_append, List.nodup_cons, List.nodup_append, List.mem_cons, List.mem_append, not_or] at hmm hN ⊢
        grind
      · intro b hb
        simp only [T.blocks, List.mem_cons, List.mem_append] at hb ⊢
        have : b = w.heap.size → w.heap.size ≤ b := fun e1 => by omega
        rcases hb with hb | hb | (hb | hb | hb) <;> first | exact .inr (this hb) | (left; simp [hb])
      · refine ⟨?_, ?_, ?_, g4, ⟨?_, ?_, ?_, g5, va⟩⟩ <;> (first | omega | (simp only [T.h]; omega) | (simp only [T.h] at *; omega))
      · simp only [T.h] at *
        simp
        omega
    · cases c with
      | nil => simp only [T.h] at g1; omega
      | nd m mb mr mk mv ml =>
        obtain ⟨q1, q2, q3, q4, q5⟩ := g5
        have hsm : s ≠ m := fun e => by simp [T.blocks, e] at hnd
        have hml : m < w.heap.size := hlt m (.inr (.inl (.inr (.inr (by simp [T.blocks])))))
        have hmd : m ≠ dn := fun e => by subst e; simp [T.blocks] at hdn
        refine (rb12_any s n m dn sb mb (ptr a) (ptr e) (ptr ml) (ptr mr) k v k2 v2 mk mv w h.1 h.2.1.1 h.2.1.2.2.1 hsn hsm ⟨q2, q3⟩).mono ?_
        rintro e' w' ⟨rfl, k1, k2', k3, hf⟩
        have hs' : ∀ (t : T), At w t → (∀ b ∈ t.blocks, b ≠ s ∧ b ≠ m) → At w' t := fun t ht hb => ht.fr hf fun b hb' e1 => by
          have := hb b hb'
          simp only [List.mem_cons, List.not_mem_nil, or_false] at e1
          rcases e1 with e1 | e1
          · exact this.1 e1
          · exact this.2 e1
        have hmm := hnd
        simp only [T.blocks] at hmm
        have qa := hs' a h.2.2 fun b hb => ⟨fun e1 => by subst e1; simp [hb] at hmm, fun e1 => by subst e1; simp [hb, List.nodup_append] at hmm <;> grind⟩
        have qe := hs' e h.2.1.2.1 fun b hb => ⟨fun e1 => by subst e1; simp [hb] at hmm, fun e1 => by subst e1; simp [hb, List.nodup_append] at hmm <;> grind⟩
        have qml := hs' ml h.2.1.2.2.2.2 fun b hb => ⟨fun e1 => by subst e1; simp [hb] at hmm, fun e1 => by subst e1; simp [hb, List.nodup_append] at hmm <;> grind⟩
        have qmr := hs' mr h.2.1.2.2.2.1 fun b hb => ⟨fun e1 => by subst e1; simp [hb] at hmm, fun e1 => by subst e1; simp [hb, List.nodup_append] at hmm <;> grind⟩
        refine ⟨T.nd m 0 (.nd w.heap.size (aN0 mb) e k2 v2 mr) mk mv (.nd s (aS0 mb) ml k v a), false, m, rfl, rfl, ⟨k3, ⟨k2', qe, qmr⟩, ⟨k1, qml, qa⟩⟩, ?_, ?_, ?_, by simp [T.toL], hf.blk hd (by simp; exact ⟨fun e1 => hsd e1.symm, fun e1 => hmd e1.symm⟩), ?_, hf.weaken (fun x hx => by simp only [List.mem_cons, List.not_mem_nil, or_false] at hx; rcases hx with rfl | rfl <;> simp [T.blocks]) (fun x hx => by cases hx)⟩
        · have hN : w.heap.size ∉ (T.nd s sb (T.nd n (1) e k2 v2 (.nd m mb mr mk mv ml)) k v a).blocks := fun hm => absurd (h.lt _ hm) (Nat.lt_irrefl _)
          simp only [T.blocks, List.cons_append, List.nodup_cons, List.nodup_append, List.mem_cons, List.mem_append, not_or] at hmm hN ⊢
          grind
        · intro b hb
          simp only [T.blocks, List.mem_cons, List.mem_append] at hb ⊢
          have : b = w.heap.size → w.heap.size ≤ b := fun e1 => by omega
          grind
        · have e1 : aS0 mb = aS0 mb := rfl
          simp only [T.h] at *
          refine ⟨?_, ?_, ?_, ⟨?_, ?_, ?_, g4, q4⟩, ⟨?_, ?_, ?_, q5, va⟩⟩ <;> (first | omega | (simp only [T.h, aS1, aN1, aS0, aN0]; (repeat (split)) <;> omega) | (simp only [T.h]; omega))
        · simp only [T.h] at *
          simp
          omega

end Go.Proofs.Ytidekgmpbcnfmaa
