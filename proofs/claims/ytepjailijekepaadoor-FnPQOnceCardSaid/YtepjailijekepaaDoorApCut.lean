/- append(s[:n:n], l...) where the elements are structs of S cells, both parts slices that read as rows. No program in sight. -/
import Derived.Test.YtepjailijekepaaDoorApRow
import Derived.Test.YtepjailijekepaaDoorFull
namespace Go.Proofs.YtepjailijekepaaDoor
set_option linter.unusedVariables false
open Go.RowKit

theorem rw_flat {S : Nat} {w : World} {b : Nat} {off len cap : Nat} {rows : List (List Value)} (hS : 0 < S) (h : Rw S w (.slice (some ⟨b, off, none⟩) len cap) rows) (hl : ∀ r ∈ rows, r.length = S) (h0 : 0 < len) :
    ∀ j u, rows.flatten[j]? = some u → w.cell? ((⟨b, off, none⟩ : Addr).add j) = some u := by
  obtain ⟨a, n, c, e, hn, hc, hm, hr⟩ := h
  injection e with e1 e2 e3
  subst e2
  obtain ⟨b', off', e4, hcell⟩ := hr h0
  rw [← e1] at e4
  injection e4 with e4
  injection e4 with e4 e5
  subst e4; subst e5
  intro j u hu
  obtain ⟨i, r, row, rfl, h6, h7⟩ := flatten_split S hS rows hl j u hu
  rw [addr_add]
  exact hcell i row h6 r u h7

theorem run_append_empty0 {P : Program} (w : World) (S : Nat) (t ty e : TypeId) (i : TypeInfo) (ht : P.underlying t = some (.slice e)) (hi : P.info? e = some i) (hsz : i.size = S) (hS : 0 < S)
    (a0 : Option Addr) (n c : Nat) (hc : n ≤ c) (h0 : a0 = none → n = 0 ∧ c = 0) (a : Option Addr) (cap : Nat) :
    (Builtin.append_ #[t, t] ty #[.slice a0 n c, .slice a 0 cap]).run P w = .ok (.slice a0 n c) w := by
  cases a0 with
  | none =>
    obtain ⟨rfl, rfl⟩ := h0 rfl
    cases a <;> simp [Builtin.append_, run_underlying ht, sizeOf, typeInfo, hi, hsz, Builtin.lenOf, Builtin.firstCells, loadCells, loadCellsFrom, storeCells, *]
  | some b =>
    cases a <;> simp [Builtin.append_, run_underlying ht, sizeOf, typeInfo, hi, hsz, Builtin.lenOf, Builtin.firstCells, loadCells, loadCellsFrom, storeCells, *]

theorem run_apCut {P : Program} (w : World) (S : Nat) (t ty e : TypeId) (z : Value) (bytes : Nat) (ht : P.underlying t = some (.slice e)) (hi : (P.info? e).map (fun i => (i.zero, i.size, i.bytes)) = some (some z, S, bytes)) (hz : z.cells.size = S) (hS : 0 < S)
    (a0 : Option Addr) (n : Nat) (rowsA : List (List Value)) (hA : Rw S w (.slice a0 n n) rowsA) (hlA : ∀ r ∈ rowsA, r.length = S) (ha0 : a0 = none → n = 0) (xv : Value) (rowsB : List (List Value)) (hB : Rw S w xv rowsB) (hlB : ∀ r ∈ rowsB, r.length = S)
    (h63 : n + rowsB.length ≤ maxLen) (hbytes : (n + rowsB.length) * bytes ≤ 140737488355328) :
    ∃ p cap w', (Builtin.append_ #[t, t] ty #[.slice a0 n n, xv]).run P w = .ok (.slice p (n + rowsB.length) cap) w' ∧ Rw S w' (.slice p (n + rowsB.length) cap) (rowsA ++ rowsB) ∧ Below w.heap.size w w' := by
  obtain ⟨ad, m, cap, rfl, hlr, hmc, hcm, hr⟩ := id hB
  have hlen : rowsA.length = n := by
    obtain ⟨_, _, _, e1, e2, _⟩ := id hA
    injection e1 with _ e3 _
    omega
  by_cases hm : m = 0
  · subst hm
    obtain rfl : rowsB = [] := List.eq_nil_of_length_eq_zero hlr
    obtain ⟨i, h2, h3, h4, h5⟩ := info_parts hi
    refine ⟨a0, n, w, ?_, by simpa using hA, Below.refl _ _⟩
    simpa using run_append_empty0 (P := P) w S t ty e i ht h2 h4 hS a0 n n (Nat.le_refl _) (fun h => ⟨ha0 h, ha0 h⟩) ad cap
  · obtain ⟨b, off, rfl, _⟩ := hr (by omega)
    have hflB := rw_flat hS hB hlB (by omega)
    have holds : (a0 = none ∧ n = 0) ∨ ∃ b, a0 = some b ∧ ∀ j v, rowsA.flatten[j]? = some v → w.cell? (b.add j) = some v := by
      cases ha : a0 with
      | none => exact .inl ⟨rfl, ha0 ha⟩
      | some ab =>
        right
        refine ⟨ab, rfl, fun j v hv => ?_⟩
        have hn0 : 0 < n := by
          rcases Nat.eq_zero_or_pos n with h | h
          · have : rowsA = [] := List.eq_nil_of_length_eq_zero (by omega)
            rw [this] at hv
            simp at hv
          · exact h
        obtain ⟨a', n', c', e1, e2, _, _, hr2⟩ := id hA
        injection e1 with e3 e4 e5
        subst e4
        obtain ⟨b2, off2, e6, _⟩ := hr2 hn0
        rw [← e3, ha] at e6
        injection e6 with e6
        subst e6
        rw [ha] at hA
        exact rw_flat hS hA hlA hn0 j v hv
    obtain ⟨cap2, w', hrun, ho, hb, hs⟩ := run_append_full (P := P) w t ty e z S bytes ht hi hz hS a0 n rowsA.flatten (by rw [flatten_len S rowsA hlA, hlen]) holds ⟨b, off, none⟩ m cap rowsB.flatten (by rw [flatten_len S rowsB hlB, hlr]) hflB (by omega) (by rw [← hlr]; exact h63) (by rw [← hlr]; exact hbytes)
    rw [← List.flatten_append] at ho
    rw [hlr]
    refine ⟨_, _, _, hrun, ?_, hb⟩
    exact Rw.of_owns (fun r hr => by rcases List.mem_append.1 hr with h | h; exact hlA r h; exact hlB r h) hS ho

theorem step_apCut {P : Program} {w : World} {ops : Array Oper} {o : Oper} {a : Act} {K : Act → World → Prop} {Q : Exit → Act → World → Prop} {E : Prop} (hgd : o.guard = none) (s x : Operand) (t : TypeId)
    (ho : o.op = .call { callee := .builtin .append, args := #[s, x], argTypes := #[t, t] })
    (S : Nat) (e : TypeId) (z : Value) (bytes : Nat) (ht : P.underlying t = some (.slice e)) (hi : (P.info? e).map (fun i => (i.zero, i.size, i.bytes)) = some (some z, S, bytes)) (hz : z.cells.size = S) (hS : 0 < S)
    (a0 : Option Addr) (n : Nat) (rowsA : List (List Value)) (hs : a.eval s = .slice a0 n n) (xv : Value) (rowsB : List (List Value)) (hx : a.eval x = xv) (hA : Rw S w (.slice a0 n n) rowsA) (hB : Rw S w xv rowsB) (hlA : ∀ r ∈ rowsA, r.length = S) (ha0 : a0 = none → n = 0) (hlB : ∀ r ∈ rowsB, r.length = S)
    (h63 : n + rowsB.length ≤ maxLen) (hbytes : (n + rowsB.length) * bytes ≤ 140737488355328)
    (h : ∀ p cap w', Rw S w' (.slice p (n + rowsB.length) cap) (rowsA ++ rowsB) → Below w.heap.size w w' → K (a.put o.dst (.slice p (n + rowsB.length) cap)) w') :
    if Region.wanted o (yielded ops a.tmps) = true then Oper.wp P o a w K Q else E := by
  obtain ⟨p, cap, w', hrun, r1, r2⟩ := run_apCut (P := P) w S t o.type e z bytes ht hi hz hS a0 n rowsA hA hlA ha0 xv rowsB hB hlB h63 hbytes
  have hwd : Region.wanted o (yielded ops a.tmps) = true := by simp [Region.wanted, hgd]
  rw [if_pos hwd]
  unfold Oper.wp execOp
  simp only [ho, resolve, invoke, builtin, Sem.run_bind, Sem.run_pure, Result.andThen_ok, List.map_toArray, List.map_cons, List.map_nil, hs, hx, hrun]
  exact h p cap w' r1 r2
end Go.Proofs.YtepjailijekepaaDoor
