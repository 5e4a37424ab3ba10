/- Walks of package queue: comparing, exchanging. -/
import Derived.Test.YtepjailijekepaaDoorPqKey
import Derived.Test.YtepjailijekepaaDoorStep
import Derived.BigRegion
import Derived.BigQuiet
import Derived.Deep.QuietTactic
import Derived.Deep.RegionHeld3
import Derived.Deep.RegionLaw
namespace Go.Proofs.YtepjailijekepaaDoor
set_option linter.unusedVariables false
open Go.RowKit
open Pqm

/-- w' is w with new blocks and writes to blocks b and m and the items' own block alone; the items' own block was theirs before, or is new -/
structure PqFr (b m : Nat) (g g' : Option Nat) (w w' : World) : Prop where
  os : w'.os = w.os
  tape : w'.tape = w.tape
  output : w'.output = w.output
  size : w.heap.size ≤ w'.heap.size
  block : ∀ k, k < w.heap.size → k ≠ b → k ≠ m → some k ≠ g → w'.heap[k]? = w.heap[k]?
  next : ∀ k, g' = some k → g = some k ∨ w.heap.size ≤ k
theorem PqFr.refl (b m : Nat) (g : Option Nat) (w : World) : PqFr b m g g w w := ⟨rfl, rfl, rfl, Nat.le_refl _, fun _ _ _ _ _ => rfl, fun _ h => .inl h⟩
theorem PqFr.trans {b m : Nat} {g g1 g2 : Option Nat} {u v w : World} (h : PqFr b m g g1 u v) (k : PqFr b m g1 g2 v w) : PqFr b m g g2 u w := by
  refine ⟨k.os.trans h.os, k.tape.trans h.tape, k.output.trans h.output, Nat.le_trans h.size k.size, fun i hi h1 h2 h3 => ?_, fun i hi => ?_⟩
  · refine (k.block i (Nat.lt_of_lt_of_le hi h.size) h1 h2 (fun e => ?_)).trans (h.block i hi h1 h2 h3)
    rcases h.next i e.symm with h4 | h4
    · exact h3 h4.symm
    · omega
  · rcases k.next i hi with h4 | h4
    · exact h.next i h4
    · exact .inr (Nat.le_trans h.size h4)
theorem PqFr.weaken {b m : Nat} {g g1 : Option Nat} {u v : World} (h : PqFr b b g g1 u v) : PqFr b m g g1 u v := ⟨h.os, h.tape, h.output, h.size, fun k hk h1 _ h3 => h.block k hk h1 h1 h3, h.next⟩
theorem PqFr.of_below {b m : Nat} {g : Option Nat} {w w' : World} (h : Below w.heap.size w w') : PqFr b m g g w w' := ⟨h.os, h.tape, h.output, h.size, fun k hk _ _ _ => h.block k hk, fun k hk => .inl hk⟩
theorem PqFr.of_grown {b m : Nat} {g g' : Option Nat} {w w' : World} (h : w.grownBy w' g) (hn : ∀ k, g' = some k → g = some k ∨ w.heap.size ≤ k) : PqFr b m g g' w w' := ⟨h.os, h.tape, h.output, h.size, fun k hk _ _ h3 => h.block k hk h3, hn⟩
theorem PqFr.store (b m : Nat) (g : Option Nat) (w : World) {a : Addr} (ha : a.block = b ∨ a.block = m) (u : Value) : PqFr b m g g w (w.setCell a u) :=
  ⟨rfl, rfl, rfl, by simp, fun k hk h1 h2 _ => Below.heap_setCell w a u k (fun e => by rcases ha with h | h; exact h1 (e.trans h); exact h2 (e.trans h)), fun k hk => .inl hk⟩
theorem PqFr.blk {b m : Nat} {g g' : Option Nat} {w w' : World} (h : PqFr b m g g' w w') {c : Nat} {t : TypeId} {cs : Array Value} (hk : Blk w c t cs) (h1 : c ≠ b) (h2 : c ≠ m) (h3 : some c ≠ g) : Blk w' c t cs :=
  (h.block c hk.lt h1 h2 h3).trans hk

/-- the queue lies in block b, with its map in block m, its items' slice at p with room c -/
structure Pq (w : World) (b m : Nat) (p : Option Addr) (c : Nat) (h : List It) (gone dup : Bool) : Prop where
  blk : Blk w b 53 #[.slice p h.length c, .map (some m), .bool gone, .bool dup]
  own : w.ownsRow 0 64 1 (.slice p h.length c) h.length (itvs h)

theorem pq_g {w : World} {b m : Nat} {p : Option Addr} {c : Nat} {h : List It} {gone dup : Bool} (H : Pq w b m p c h gone dup) : (p = none ∧ h = []) ∨ ∃ g, p = some ⟨g, 0, none⟩ ∧ g ≠ b ∧ g < w.heap.size ∧ h.length ≤ c ∧ c ≤ maxLen := by
  rcases H.own.2 with ⟨e, e2⟩ | ⟨g, cap, cur, e, _, hg, hc1, hc2, _⟩
  · injection e with e1 e2 e3
    exact .inl ⟨e1, List.eq_nil_of_length_eq_zero e2⟩
  · injection e with e1 e2 e3
    subst e3
    refine .inr ⟨g, e1, fun e => ?_, (Array.getElem?_eq_some_iff.1 hg).1, hc1, hc2⟩
    subst e
    have h2 := H.blk
    unfold Blk at h2
    rw [h2] at hg
    simp at hg

theorem Pq.cell {w : World} {b m : Nat} {g c : Nat} {h : List It} {gone dup : Bool} (H : Pq w b m (some ⟨g, 0, none⟩) c h gone dup) (i : Nat) (hi : i < h.length) : w.cell? ⟨g, i, none⟩ = some (itv (h.getD i dI)) := by
  have := H.own.cells (g := g) rfl i _ (itvs_at h i hi)
  rw [addr_add, Nat.zero_add] at this
  exact this
theorem Pq.below {w w' : World} {b m : Nat} {p : Option Addr} {c : Nat} {h : List It} {gone dup : Bool} (H : Pq w b m p c h gone dup) (hb : Below w.heap.size w w') : Pq w' b m p c h gone dup := by
  refine ⟨H.blk.below hb H.blk.lt, ?_⟩
  refine ⟨H.own.1, ?_⟩
  have hl := H.own.lt
  rcases H.own.2 with h0 | ⟨g, cap, cur, e, hbg, hg, r⟩
  · exact .inl h0
  · exact .inr ⟨g, cap, cur, e, hbg, (hb.block g (Array.getElem?_eq_some_iff.1 hg).1).trans hg, r⟩

theorem Pq.drew {w : World} {b m : Nat} {p : Option Addr} {c : Nat} {h : List It} {gone dup : Bool} (H : Pq w b m p c h gone dup) : Pq w.drew b m p c h gone dup := ⟨H.blk, H.own⟩
theorem PqFr.drew {b m : Nat} {g g' : Option Nat} {w w' : World} (h : PqFr b m g g' w w') : PqFr b m g g' w w'.drew := ⟨h.os, h.tape, h.output, h.size, h.block, h.next⟩
def ordI (a b : Int) : Int := if a < b then -1 else if b < a then 1 else 0
theorem order_any (a b : Int) (w : World) : Calls Tryd.prog 46 #[.int .i64 a, .int .i64 b] w fun e w' => e = .returned (.int .i64 (ordI a b)) ∧ w = w' := by
  unfold ordI
  by_cases h1 : a < b
  · rw [if_pos h1]
    go_enter Tryd.func46, Tryd.ntmps46
    go_wp2_with fail
    go_ret
    exact ⟨rfl, rfl⟩
  · rw [if_neg h1]
    by_cases h2 : b < a
    · rw [if_pos h2]
      go_enter Tryd.func46, Tryd.ntmps46
      go_wp2_with fail
      go_ret
      exact ⟨rfl, rfl⟩
    · rw [if_neg h2]
      go_enter Tryd.func46, Tryd.ntmps46
      go_wp2_with fail
      go_ret
      exact ⟨rfl, rfl⟩

theorem assert_pqi (v : Value) (w : World) : (Instr.typeAssert (.iface 55 v) 64 55 false).run Tryd.prog w = .ok v w := by kernel_rfl

theorem field_pqi (y1 y2 : Int) (w : World) : (Instr.field 55 (.agg #[.int .i64 y1, .int .i64 y2]) 0).run Tryd.prog w = .ok (.agg #[.int .i64 y1, .int .i64 y2]) w := by kernel_rfl
theorem field_pqk (y1 y2 : Int) (w : World) : (Instr.field 45 (.agg #[.int .i64 y1, .int .i64 y2]) 0).run Tryd.prog w = .ok (.int .i64 y1) w := by kernel_rfl

set_option maxHeartbeats 1000000 in
theorem cmp_any (x y : It) (w : World) : Calls Tryd.prog 45 #[.agg #[.int .i64 x.1, .int .i64 x.2], itv y] w fun e w' => e = .returned (.int .i64 (ordI x.1 y.1)) ∧ Below w.heap.size w w' := by
  obtain ⟨x1, x2⟩ := x
  obtain ⟨y1, y2⟩ := y
  show Calls Tryd.prog 45 #[.agg #[.int .i64 x1, .int .i64 x2], .iface 55 (.agg #[.int .i64 y1, .int .i64 y2])] w _
  show Calls _ _ _ _ fun e w' => e = .returned (.int .i64 (ordI x1 y1)) ∧ _
  have hta := assert_pqi
  have hpa := field_pqi y1 y2
  have hpb := field_pqk y1 y2
  go_enter Tryd.func45, Tryd.ntmps45
  go_wp2_with fail
  go_quiet ((go_at_call 46; exact Calls.quiet_of_same ((order_any _ _ _).mono fun _ _ h => ⟨h.1, h.2.symm⟩)))
  go_wp2_with fail
  go_ret
  exact ⟨rfl, below_drewN ((Below.refl _ _).alloc (Nat.le_refl _) _) _⟩

theorem Pq.swapped {w : World} {b m g c : Nat} {h : List It} {gone dup : Bool} (H : Pq w b m (some ⟨g, 0, none⟩) c h gone dup) (i j : Nat) (x y : It) (hx : h.getD i dI = x) (hy : h.getD j dI = y) :
    Pq (((w.setCell ⟨g, i, none⟩ (itv y))).setCell ⟨g, j, none⟩ (itv x)) b m (some ⟨g, 0, none⟩) c (swp h i j) gone dup ∧ PqFr b b (some g) (some g) w ((w.setCell ⟨g, i, none⟩ (itv y)).setCell ⟨g, j, none⟩ (itv x)) := by
  obtain ⟨hgb⟩ : Nonempty (g ≠ b) := by
    rcases pq_g H with ⟨e, _⟩ | ⟨g', e, h2, _⟩
    · cases e
    · injection e with e; injection e with e; subst e; exact ⟨h2⟩
  have s1 := H.own.stored i (itv y)
  have s2 := s1.1.stored j (itv x)
  have e : ((itvs h).set i (itv y)).set j (itv x) = itvs (swp h i j) := by
    unfold swp
    rw [itvs_set, itvs_set, hx, hy]
  rw [e] at s2
  refine ⟨⟨?_, ?_⟩, ?_⟩
  · rw [swp_len]
    exact (H.blk.other (a := ⟨g, i, none⟩) (fun e => hgb e.symm) _).other (a := ⟨g, j, none⟩) (fun e => hgb e.symm) _
  · rw [swp_len]
    exact s2.1
  · exact (PqFr.of_grown s1.2 (fun k e => .inl e)).trans (PqFr.of_grown s2.2 (fun k e => .inl e))

set_option maxRecDepth 100000 in
set_option maxHeartbeats 1000000 in
theorem swap_any (b m : Nat) (g c : Nat) (h : List It) (gone dup : Bool) (i j : Nat) (w : World) (H : Pq w b m (some ⟨g, 0, none⟩) c h gone dup) (hi : i < h.length) (hj : j < h.length) :
    Calls Tryd.prog 28 #[.pointer (some ⟨b, 0, none⟩), .int .i64 i, .int .i64 j] w fun e w' => e = .returned (.tuple #[]) ∧ Pq w' b m (some ⟨g, 0, none⟩) c (swp h i j) gone dup ∧ PqFr b b (some g) (some g) w w' := by
  have h0 : w.cell? ⟨b, 0, none⟩ = some (.slice (some ⟨g, 0, none⟩) h.length c) := H.blk.cell 0 rfl
  have hci := H.cell i hi
  have hcj := H.cell j hj
  have hfi := H.own.frozenAt i
  have hfj := H.own.frozenAt j
  obtain ⟨n, hn⟩ : ∃ n, h.length = n := ⟨_, rfl⟩
  have HN := Lib.hid hn
  have HH := Lib.hid H
  obtain ⟨⟨x1, x2⟩, hX⟩ : ∃ X, h.getD i dI = X := ⟨_, rfl⟩
  obtain ⟨⟨y1, y2⟩, hY⟩ : ∃ Y, h.getD j dI = Y := ⟨_, rfl⟩
  rw [hX] at hci
  rw [hY] at hcj
  have hci2 : w.cell? ⟨g, i, none⟩ = some (.iface 55 (.agg #[.int .i64 x1, .int .i64 x2])) := hci
  have hcj2 : w.cell? ⟨g, j, none⟩ = some (.iface 55 (.agg #[.int .i64 y1, .int .i64 y2])) := hcj
  have hcs : (w.setCell ⟨g, i, none⟩ (.iface 55 (.agg #[.int .i64 y1, .int .i64 y2]))).cell? ⟨g, j, none⟩ = some (.iface 55 (.agg #[.int .i64 y1, .int .i64 y2])) := by
    have := (H.own.stored i (.iface 55 (.agg #[.int .i64 y1, .int .i64 y2]))).1.cellAt j (by omega)
    rw [this, List.getElem?_set]
    split
    · have : i < (itvs h).length := by rw [itvs_len]; omega
      simp [this]
    · rw [itvs_at h j (by omega), hY]
      rfl
  rw [hn] at h0 hi hj
  clear hci hcj
  have HX := Lib.hid hX
  have HY := Lib.hid hY
  clear hn H hX hY
  go_enter Tryd.func28, Tryd.ntmps28
  go_wp2_with fail
  go_region
  go_wp2_with fail
  go_end0
  have hs := HH.out.swapped i j (x1, x2) (y1, y2) HX.out HY.out
  exact ⟨rfl, hs.1.drew, hs.2.drew⟩
end Go.Proofs.YtepjailijekepaaDoor
