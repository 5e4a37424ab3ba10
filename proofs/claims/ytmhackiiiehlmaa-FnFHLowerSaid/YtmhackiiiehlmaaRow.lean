/- Slices whose elements are structs of several cells: appends to the call's own, reads. No program in sight. -/
import Derived.Test.YtmhackiiiehlmaaSl
namespace Go.Proofs.Ytmhackiiiehlmaa
set_option linter.unusedVariables false
open Go.RowKit

/-- append(v, u) where u is a struct of S cells, v the call's own (or nil): u lies in the block that was laid for it -/
theorem wpList_appendS {P : Program} {w : World} {ops : Array Oper} {rest : List Oper} {o : Oper} {a : Act} {Q : Exit → Act → World → Prop} (hgd : o.guard = none) (s x : Operand) (t : TypeId)
    (ho : o.op = .call { callee := .builtin .append, args := #[s, x], argTypes := #[t, t] })
    (base S : Nat) (e : TypeId) (z : Value) (bytes : Nat) (ht : P.underlying t = some (.slice e)) (hi : (P.info? e).map (fun i => (i.zero, i.size, i.bytes)) = some (some z, S, bytes)) (hz : z.cells.size = S) (hS : 0 < S)
    (v : Value) (n : Nat) (xs : List Value) (hs : a.eval s = v) (hown : w.ownsRow base e S v n xs)
    (us : Array Value) (hx : a.eval x = .slice (some ⟨w.heap.size, 0, none⟩) 1 1) (hus : us.size = S) (h1 : ∀ u ∈ us.toList, u.oneCell' = true)
    (h63 : n + 1 ≤ maxLen) (hbytes : (n + 1) * bytes ≤ 140737488355328) (hbase : base ≤ w.heap.size)
    (h : ∀ g cap w', w'.ownsRow base e S (.slice (some ⟨g, 0, none⟩) (n + 1) cap) (n + 1) (xs ++ us.toList) → w.grownBy w' v.ownBlock → Below base w w' → wpList P ops Q rest (a.put o.dst (.slice (some ⟨g, 0, none⟩) (n + 1) cap)) w') :
    wpList P ops Q (o :: rest) a (w.alloc (.cells us e)) := by
  obtain ⟨i, h2, h3, h4, h5⟩ := info_parts hi
  have hw : (w.alloc (.cells us e)).heap.size = w.heap.size + 1 := by simp
  have hcells : ∀ j u, us.toList[j]? = some u → (w.alloc (.cells us e)).cell? ((⟨w.heap.size, 0, none⟩ : Addr).add j) = some u := by
    intro j u hu
    rw [addr_add, Nat.zero_add]
    refine (Blk.new w e us).cell j ?_
    rw [← Array.getElem?_toList]
    exact hu
  refine wpList_append_own _ hgd s x t ho base e i z S bytes ht h2 h3 h4 h5 hz hS v n xs hs (hown.alloc _) ⟨w.heap.size, 0, none⟩ 1 1 us.toList hx (by simpa using hus) hcells h1 h63 hbytes (by omega) fun v' w' hown' hgr hnil => ?_
  have hg2 : w.grownBy w' v.ownBlock := ⟨hgr.os, hgr.tape, hgr.output, by have := hgr.size; omega, fun k hk hne => (hgr.block k (by omega) hne).trans (Below.heap_alloc w _ k hk)⟩
  have hv' : ∃ g cap, v' = .slice (some ⟨g, 0, none⟩) (n + 1) cap := by
    rcases hown'.2 with ⟨e, _⟩ | ⟨g, cap, cur, e, _⟩
    · have := (hnil.1 e).2; omega
    · exact ⟨g, cap, e⟩
  obtain ⟨g, cap, rfl⟩ := hv'
  exact h g cap w' hown' hg2 ((Below.refl _ _).grown hg2 hbase fun k hk => (hown.lt k hk).1)

/-- v is a slice of structs of S cells that reads as the rows -/
def Rw (S : Nat) (w : World) (v : Value) (rows : List (List Value)) : Prop :=
  ∃ (a : Option Addr) (n cap : Nat), v = .slice a n cap ∧ rows.length = n ∧ n ≤ cap ∧ cap ≤ maxLen ∧
    (0 < n → ∃ b off, a = some ⟨b, off, none⟩ ∧ ∀ i row, rows[i]? = some row → ∀ j u, row[j]? = some u → w.cell? ⟨b, off + (i * S + j), none⟩ = some u)

theorem Rw.below {S : Nat} {w w' : World} {v : Value} {rows : List (List Value)} {B : Nat} (h : Rw S w v rows) (hB : B = w.heap.size) (hb : Below B w w') : Rw S w' v rows := by
  subst hB
  obtain ⟨a, n, cap, rfl, hn, hc, hm, hr⟩ := h
  refine ⟨a, n, cap, rfl, hn, hc, hm, fun h0 => ?_⟩
  obtain ⟨b, off, rfl, hcell⟩ := hr h0
  refine ⟨b, off, rfl, fun i row hi j u hu => ?_⟩
  have h1 := hcell i row hi j u hu
  have hlt := World.block_lt_of_cell? w _ h1
  rw [hb.cell (p := ⟨b, off + (i * S + j), none⟩) hlt]
  exact h1

theorem Rw.nil (S : Nat) (w : World) : Rw S w (.slice none 0 0) [] := ⟨none, 0, 0, rfl, rfl, Nat.le_refl _, Nat.zero_le _, fun h => absurd h (Nat.lt_irrefl _)⟩

theorem flatten_at {α : Type} (S : Nat) : ∀ (rows : List (List α)) (_ : ∀ r ∈ rows, r.length = S) (i j : Nat) (row : List α) (u : α), rows[i]? = some row → row[j]? = some u → rows.flatten[i * S + j]? = some u := by
  intro rows
  induction rows with
  | nil => intro _ i j row u h _; simp at h
  | cons r rs ih =>
    intro hl i j row u hi hj
    have hr : r.length = S := hl r (by simp)
    rw [List.flatten_cons]
    cases i with
    | zero =>
      simp at hi
      subst hi
      have hjl : j < r.length := (List.getElem?_eq_some_iff.1 hj).1
      rw [Nat.zero_mul, Nat.zero_add, List.getElem?_append_left hjl]
      exact hj
    | succ i =>
      simp at hi
      have := ih (fun r hr => hl r (List.mem_cons_of_mem _ hr)) i j row u hi hj
      have e : (i + 1) * S + j = r.length + (i * S + j) := by rw [Nat.succ_mul, hr]; omega
      rw [e, List.getElem?_append_right (by omega), Nat.add_sub_cancel_left]
      exact this

theorem flatten_len {α : Type} (S : Nat) : ∀ (rows : List (List α)) (_ : ∀ r ∈ rows, r.length = S), rows.flatten.length = rows.length * S := by
  intro rows
  induction rows with
  | nil => intro _; simp
  | cons r rs ih =>
    intro hl
    rw [List.flatten_cons, List.length_append, ih (fun r hr => hl r (List.mem_cons_of_mem _ hr)), hl r (by simp), List.length_cons, Nat.succ_mul]
    omega

theorem Rw.of_owns {S : Nat} {w : World} {B : Nat} {e : TypeId} {v : Value} {n : Nat} {rows : List (List Value)} (hS : ∀ r ∈ rows, r.length = S) (h0 : 0 < S) (h : w.ownsRow B e S v n rows.flatten) : Rw S w v rows := by
  have hl := h.1
  rw [flatten_len S rows hS] at hl
  have hn : rows.length = n := Nat.eq_of_mul_eq_mul_right h0 hl
  rcases h.2 with ⟨rfl, rfl⟩ | ⟨g, cap, cur, rfl, hbg, hg, hnc, hcm, hcs, htake⟩
  · obtain rfl : rows = [] := List.eq_nil_of_length_eq_zero hn
    exact Rw.nil S w
  · refine ⟨some ⟨g, 0, none⟩, n, cap, rfl, hn, hnc, hcm, fun _ => ⟨g, 0, rfl, fun i row hi j u hu => ?_⟩⟩
    have := h.cells (g := g) rfl (i * S + j) u (flatten_at S rows hS i j row u hi hu)
    rwa [addr_add] at this

end Go.Proofs.Ytmhackiiiehlmaa
