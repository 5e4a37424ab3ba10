/- Frames by footprints: which blocks a call may have written, and which it owns then; append of one element with the place of the row. No program in sight. -/
import Derived.Test.YtmhackiiiehlmaaSl
import Derived.Test.YtmhackiiiehlmaaMem
import Derived.Maps.AppendAt
namespace Go.Proofs.Ytmhackiiiehlmaa
set_option linter.unusedVariables false
open Go.RowKit

/-- the block of a slice of the run's own -/
def obl (v : Value) : List Nat := v.ownBlock.toList
theorem mem_obl {v : Value} {k : Nat} : k ∈ obl v ↔ v.ownBlock = some k := by unfold obl; rw [Option.mem_toList]
theorem obl_some (g n c : Nat) : obl (.slice (some ⟨g, 0, none⟩) n c) = [g] := rfl
theorem obl_none : obl (.slice none 0 0) = [] := rfl

theorem row_blk {w : World} {B : Nat} {e : TypeId} {size : Nat} {v : Value} {n : Nat} {xs : List Value} (h : w.ownsRow B e size v n xs) {s : Nat} {t : TypeId} {cs : Array Value} (hs : Blk w s t cs) (he : e ≠ t) : v.ownBlock ≠ some s := by
  rcases h.2 with ⟨rfl, _⟩ | ⟨g, cap, cur, rfl, hbg, hg, _⟩
  · simp [Value.ownBlock]
  · intro e2
    simp [Value.ownBlock] at e2
    subst e2
    unfold Blk at hs
    rw [hs] at hg
    simp at hg
    exact he hg.2.symm
theorem row_row {w : World} {B B' : Nat} {e e' : TypeId} {z z' : Nat} {v v' : Value} {n n' : Nat} {xs xs' : List Value} (h1 : w.ownsRow B e z v n xs) (h2 : w.ownsRow B' e' z' v' n' xs') (he : e ≠ e') : ∀ k, k ∈ obl v → k ∉ obl v' := by
  intro k hk hk'
  rw [mem_obl] at hk hk'
  rcases h1.2 with ⟨rfl, _⟩ | ⟨g, cap, cur, rfl, _, hg, _⟩
  · cases hk
  · rcases h2.2 with ⟨rfl, _⟩ | ⟨g', cap', cur', rfl, _, hg', _⟩
    · cases hk'
    · have e1 : g = k := by injection hk
      have e2 : g' = k := by injection hk'
      subst e1 e2
      rw [hg] at hg'
      simp at hg'
      exact he hg'.2
theorem own_lt {w : World} {B : Nat} {e : TypeId} {size : Nat} {v : Value} {n : Nat} {xs : List Value} (h : w.ownsRow B e size v n xs) : ∀ k ∈ obl v, k < w.heap.size ∧ B ≤ k := fun k hk => by
  have := h.lt k (mem_obl.1 hk)
  exact ⟨this.2, this.1⟩

structure Fr (F F' : List Nat) (w w' : World) : Prop where
  os : w'.os = w.os
  tape : w'.tape = w.tape
  output : w'.output = w.output
  size : w.heap.size ≤ w'.heap.size
  block : ∀ k, k < w.heap.size → k ∉ F → w'.heap[k]? = w.heap[k]?
  next : ∀ k ∈ F', k ∈ F ∨ w.heap.size ≤ k

theorem Fr.refl (F : List Nat) (w : World) : Fr F F w w := ⟨rfl, rfl, rfl, Nat.le_refl _, fun _ _ _ => rfl, fun _ h => .inl h⟩
theorem Fr.trans {F G H : List Nat} {u v w : World} (h : Fr F G u v) (k : Fr G H v w) : Fr F H u w := by
  refine ⟨k.os.trans h.os, k.tape.trans h.tape, k.output.trans h.output, Nat.le_trans h.size k.size, fun i hi h1 => ?_, fun i hi => ?_⟩
  · refine (k.block i (Nat.lt_of_lt_of_le hi h.size) (fun e => ?_)).trans (h.block i hi h1)
    rcases h.next i e with h4 | h4
    · exact h1 h4
    · omega
  · rcases k.next i hi with h4 | h4
    · exact h.next i h4
    · exact .inr (Nat.le_trans h.size h4)
theorem Fr.of_below {w w' : World} (F : List Nat) (h : Below w.heap.size w w') : Fr F F w w' := ⟨h.os, h.tape, h.output, h.size, fun k hk _ => h.block k hk, fun _ hk => .inl hk⟩
theorem Fr.weaken {F F' G G' : List Nat} {w w' : World} (h : Fr F F' w w') (h1 : ∀ k ∈ F, k ∈ G) (h2 : ∀ k ∈ G', k ∈ F' ∨ k ∈ G) : Fr G G' w w' :=
  ⟨h.os, h.tape, h.output, h.size, fun k hk hn => h.block k hk (fun e => hn (h1 k e)), fun k hk => by
    rcases h2 k hk with e | e
    · exact (h.next k e).imp (h1 k) id
    · exact .inl e⟩
theorem Fr.store {F : List Nat} (w : World) {a : Addr} (ha : a.block ∈ F) (u : Value) : Fr F F w (w.setCell a u) :=
  ⟨rfl, rfl, rfl, by simp, fun k hk h1 => Below.heap_setCell w a u k (fun e => h1 (e ▸ ha)), fun k hk => .inl hk⟩
theorem Fr.drew {F F' : List Nat} {w w' : World} (h : Fr F F' w w') : Fr F F' w w'.drew := ⟨h.os, h.tape, h.output, h.size, h.block, h.next⟩
theorem Fr.drewN {F F' : List Nat} {w w' : World} (h : Fr F F' w w') (n : Nat) : Fr F F' w (w'.drewN n) := ⟨h.os, h.tape, h.output, h.size, h.block, h.next⟩
theorem Fr.alloc {F F' : List Nat} {w w' : World} (h : Fr F F' w w') (o : Obj) : Fr F F' w (w'.alloc o) := h.trans (Fr.of_below F' ((Below.refl _ _).alloc (Nat.le_refl _) _))
theorem Fr.of_grown {w w' : World} {v v' : Value} (h : w.grownBy w' v.ownBlock) (hn : ∀ k, v'.ownBlock = some k → v.ownBlock = some k ∨ w.heap.size ≤ k) : Fr (obl v) (obl v') w w' :=
  ⟨h.os, h.tape, h.output, h.size, fun k hk h3 => h.block k hk (fun e => h3 (mem_obl.2 e.symm)), fun k hk => (hn k (mem_obl.1 hk)).imp mem_obl.2 id⟩
theorem Fr.of_grown_same {w w' : World} {g : Nat} (h : w.grownBy w' (some g)) : Fr [g] [g] w w' :=
  ⟨h.os, h.tape, h.output, h.size, fun k hk h3 => h.block k hk (fun e => h3 (by injection e with e; rw [e]; exact List.mem_singleton.2 rfl)), fun k hk => .inl hk⟩
theorem Fr.blk {F F' : List Nat} {w w' : World} (h : Fr F F' w w') {c : Nat} {t : TypeId} {cs : Array Value} (hk : Blk w c t cs) (h1 : c ∉ F) : Blk w' c t cs := (h.block c hk.lt h1).trans hk
theorem Fr.own {F F' : List Nat} {w w' : World} (h : Fr F F' w w') {B : Nat} {e : TypeId} {size : Nat} {v : Value} {n : Nat} {xs : List Value} (hk : w.ownsRow B e size v n xs) (h1 : ∀ k ∈ obl v, k ∉ F) : w'.ownsRow B e size v n xs := by
  refine ⟨hk.1, ?_⟩
  rcases hk.2 with h0 | ⟨g, cap, cur, rfl, hbg, hg, r⟩
  · exact .inl h0
  · exact .inr ⟨g, cap, cur, rfl, hbg, (h.block g (Array.getElem?_eq_some_iff.1 hg).1 (h1 g (mem_obl.2 rfl))).trans hg, r⟩
theorem Fr.below {F F' : List Nat} {w w' : World} {B : Nat} (h : Fr F F' w w') (hF : ∀ k ∈ F, B ≤ k) (hB : B ≤ w.heap.size) : Below B w w' :=
  ⟨h.os, h.tape, h.output, h.size, fun k hk => h.block k (by omega) (fun e => by have := hF k e; omega)⟩
/-- the same, where B is no part of what is written -/
theorem Fr.cell {F F' : List Nat} {w w' : World} (h : Fr F F' w w') {b o : Nat} {u : Value} (hc : w.cell? ⟨b, o, none⟩ = some u) (hb : b ∉ F) : w'.cell? ⟨b, o, none⟩ = some u := by
  have hlt := World.block_lt_of_cell? w _ hc
  rw [← hc]
  simp only [World.cell?, h.block b hlt hb]

/-- append(v, u) as wpList_append1, and where the row lies: where it was, or in a new block -/
theorem wpList_append1A {P : Program} {w : World} {ops : Array Oper} {rest : List Oper} {o : Oper} {a : Act} {Q : Exit → Act → World → Prop} (hgd : o.guard = none) (s x : Operand) (t : TypeId)
    (ho : o.op = .call { callee := .builtin .append, args := #[s, x], argTypes := #[t, t] })
    (base : Nat) (e : TypeId) (z : Value) (bytes : Nat) (ht : P.underlying t = some (.slice e)) (hi : (P.info? e).map (fun i => (i.zero, i.size, i.bytes)) = some (some z, 1, bytes)) (hz : z.cells = #[z])
    (v : Value) (n : Nat) (xs : List Value) (hs : a.eval s = v) (hown : w.ownsRow base e 1 v n xs)
    (u : Value) (hx : a.eval x = .slice (some ⟨w.heap.size, 0, none⟩) 1 1) (h1 : u.oneCell' = true)
    (h63 : n + 1 ≤ maxLen) (hbytes : (n + 1) * bytes ≤ 140737488355328) (hbase : base ≤ w.heap.size)
    (h : ∀ g cap w', w'.ownsRow base e 1 (.slice (some ⟨g, 0, none⟩) (n + 1) cap) (n + 1) (xs ++ [u]) → Fr (obl v) [g] w w' → wpList P ops Q rest (a.put o.dst (.slice (some ⟨g, 0, none⟩) (n + 1) cap)) w') :
    wpList P ops Q (o :: rest) a (w.alloc (.cells #[u] e)) := by
  obtain ⟨i, h2, h3, h4, h5⟩ := info_parts hi
  have hw : (w.alloc (.cells #[u] e)).heap.size = w.heap.size + 1 := by simp
  refine wpList_append_own_at _ hgd s x t ho base e i z 1 bytes ht h2 h3 h4 h5 (by rw [hz]; rfl) (by omega) v n xs hs (hown.alloc _) ⟨w.heap.size, 0, none⟩ 1 1 [u] hx rfl (cell_one_new _ _ _) (by simpa using h1) h63 hbytes (by omega) fun v' w' hown' hgr hnil hat => ?_
  have hg2 : w.grownBy w' v.ownBlock := ⟨hgr.os, hgr.tape, hgr.output, by have := hgr.size; omega, fun k hk hne => (hgr.block k (by omega) hne).trans (Below.heap_alloc w _ k hk)⟩
  have hv' : ∃ g cap, v' = .slice (some ⟨g, 0, none⟩) (n + 1) cap := by
    rcases hown'.2 with ⟨e, _⟩ | ⟨g, cap, cur, e, _⟩
    · have := (hnil.1 e).2; omega
    · exact ⟨g, cap, e⟩
  obtain ⟨g, cap, rfl⟩ := hv'
  refine h g cap w' hown' (Fr.of_grown (v' := .slice (some ⟨g, 0, none⟩) (n + 1) cap) hg2 (fun k hk => ?_))
  have hk : g = k := by injection hk
  subst hk
  rcases hat with h | h
  · exact .inl h.symm
  · simp [Value.ownBlock] at h
    exact .inr (by omega)
end Go.Proofs.Ytmhackiiiehlmaa
