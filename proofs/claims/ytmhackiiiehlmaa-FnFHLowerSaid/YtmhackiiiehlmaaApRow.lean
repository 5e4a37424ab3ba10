/- append(v, l...) where the elements are structs of S cells, v the call's own (or nil), l any slice that reads as rows. No program in sight. -/
import Derived.Test.YtmhackiiiehlmaaRow
import Derived.Deep.RegionHeld3
namespace Go.Proofs.Ytmhackiiiehlmaa
set_option linter.unusedVariables false
open Go.RowKit

theorem flatten_split {α : Type} (S : Nat) (hS : 0 < S) : ∀ (rows : List (List α)) (_ : ∀ r ∈ rows, r.length = S) (j : Nat) (u : α), rows.flatten[j]? = some u → ∃ i r row, j = i * S + r ∧ rows[i]? = some row ∧ row[r]? = some u := by
  intro rows
  induction rows with
  | nil => intro _ j u h; simp at h
  | cons x rs ih =>
    intro hl j u h
    have hx : x.length = S := hl x (by simp)
    rw [List.flatten_cons] at h
    by_cases hj : j < x.length
    · rw [List.getElem?_append_left hj] at h
      exact ⟨0, j, x, by omega, rfl, h⟩
    · rw [List.getElem?_append_right (by omega)] at h
      obtain ⟨i, r, row, h1, h2, h3⟩ := ih (fun r hr => hl r (by simp [hr])) _ u h
      refine ⟨i + 1, r, row, ?_, by simpa using h2, h3⟩
      rw [Nat.add_mul, Nat.one_mul]
      omega
theorem run_append_emptyS {P : Program} (w : World) (base S : Nat) (t ty e : TypeId) (i : TypeInfo) (ht : P.underlying t = some (.slice e)) (hi : P.info? e = some i) (hsz : i.size = S)
    (v : Value) (n : Nat) (xs : List Value) (hown : w.ownsRow base e S v n xs) (a : Option Addr) (cap : Nat) :
    (Builtin.append_ #[t, t] ty #[v, .slice a 0 cap]).run P w = .ok v w := by
  rcases hown.2 with ⟨rfl, rfl⟩ | ⟨g, cap', cur, rfl, _, _, hnc, _⟩ <;> cases a <;>
    simp [Builtin.append_, run_underlying ht, sizeOf, typeInfo, hi, hsz, Builtin.lenOf, Builtin.firstCells, loadCells, loadCellsFrom, storeCells, *]

theorem run_apRw {P : Program} (w : World) (base S : Nat) (t ty e : TypeId) (z : Value) (bytes : Nat) (ht : P.underlying t = some (.slice e)) (hi : (P.info? e).map (fun i => (i.zero, i.size, i.bytes)) = some (some z, S, bytes)) (hz : z.cells.size = S) (hS : 0 < S)
    (v : Value) (n : Nat) (xs : List Value) (hown : w.ownsRow base e S v n xs) (xv : Value) (rows : List (List Value)) (hrw : Rw S w xv rows) (hl : ∀ r ∈ rows, r.length = S) (h1 : ∀ u ∈ rows.flatten, u.oneCell' = true)
    (h63 : n + rows.length ≤ maxLen) (hbytes : (n + rows.length) * bytes ≤ 140737488355328) (hbase : base ≤ w.heap.size) :
    ∃ p m cap w', (Builtin.append_ #[t, t] ty #[v, xv]).run P w = .ok (.slice p m cap) w' ∧ w'.ownsRow base e S (.slice p m cap) (n + rows.length) (xs ++ rows.flatten) ∧ w.grownBy w' v.ownBlock ∧ Below base w w' := by
  obtain ⟨i, h2, h3, h4, h5⟩ := info_parts hi
  obtain ⟨ad, m, cap, rfl, hlr, hmc, hcm, hr⟩ := hrw
  have run : ∃ v' w', (Builtin.append_ #[t, t] ty #[v, .slice ad m cap]).run P w = .ok v' w' ∧ w'.ownsRow base e S v' (n + rows.length) (xs ++ rows.flatten) ∧ w.grownBy w' v.ownBlock := by
    by_cases hm : m = 0
    · subst hm
      obtain rfl : rows = [] := List.eq_nil_of_length_eq_zero hlr
      exact ⟨v, w, run_append_emptyS w base S t ty e i ht h2 h4 v n xs hown ad cap, by simpa using hown, ⟨rfl, rfl, rfl, Nat.le_refl _, fun _ _ _ => rfl⟩⟩
    · obtain ⟨b, off, rfl, hcell⟩ := hr (by omega)
      obtain ⟨v', w', hrun, ho1, ho2, _⟩ := run_append_own (P := P) w base t ty e i z S bytes ht h2 h3 h4 h5 hz hS v n xs hown ⟨b, off, none⟩ m cap rows.flatten (by rw [flatten_len S rows hl, hlr]) (fun j u hu => by
        obtain ⟨i, r, row, rfl, h6, h7⟩ := flatten_split S hS rows hl j u hu
        rw [addr_add]
        exact hcell i row h6 r u h7) h1 (by omega) (by rw [← hlr]; exact hbytes) hbase
      exact ⟨v', w', hrun, by rw [hlr]; exact ho1, ho2⟩
  obtain ⟨v', w', hrun, ho1, ho2⟩ := run
  have hv' : ∃ p m cap, v' = .slice p m cap := by
    rcases ho1.2 with ⟨e, _⟩ | ⟨g, cap, cur, e, _⟩ <;> exact ⟨_, _, _, e⟩
  obtain ⟨p, m', cap', rfl⟩ := hv'
  exact ⟨p, m', cap', w', hrun, ho1, ho2, (Below.refl _ _).grown ho2 hbase fun k hk => (hown.lt k hk).1⟩

theorem step_apRw {P : Program} {w : World} {ops : Array Oper} {o : Oper} {a : Act} {K : Act → World → Prop} {Q : Exit → Act → World → Prop} {E : Prop} (hgd : o.guard = none) (s x : Operand) (t : TypeId)
    (ho : o.op = .call { callee := .builtin .append, args := #[s, x], argTypes := #[t, t] })
    (base S : Nat) (e : TypeId) (z : Value) (bytes : Nat) (ht : P.underlying t = some (.slice e)) (hi : (P.info? e).map (fun i => (i.zero, i.size, i.bytes)) = some (some z, S, bytes)) (hz : z.cells.size = S) (hS : 0 < S)
    (v : Value) (n : Nat) (xs : List Value) (hs : a.eval s = v) (hown : w.ownsRow base e S v n xs) (xv : Value) (rows : List (List Value)) (hx : a.eval x = xv) (hrw : Rw S w xv rows) (hl : ∀ r ∈ rows, r.length = S) (h1 : ∀ u ∈ rows.flatten, u.oneCell' = true)
    (h63 : n + rows.length ≤ maxLen) (hbytes : (n + rows.length) * bytes ≤ 140737488355328) (hbase : base ≤ w.heap.size)
    (h : ∀ p m cap w', w'.ownsRow base e S (.slice p m cap) (n + rows.length) (xs ++ rows.flatten) → w.grownBy w' v.ownBlock → Below base w w' → K (a.put o.dst (.slice p m cap)) w') :
    if Region.wanted o (yielded ops a.tmps) = true then Oper.wp P o a w K Q else E := by
  obtain ⟨p, m, cap, w', hrun, r1, r2, r3⟩ := run_apRw (P := P) w base S t o.type e z bytes ht hi hz hS v n xs hown xv rows hrw hl h1 h63 hbytes hbase
  have hwd : Region.wanted o (yielded ops a.tmps) = true := by simp [Region.wanted, hgd]
  rw [if_pos hwd]
  unfold Oper.wp execOp
  simp only [ho, resolve, invoke, builtin, Sem.run_bind, Sem.run_pure, Result.andThen_ok, List.map_toArray, List.map_cons, List.map_nil, hs, hx, hrun]
  exact h p m cap w' r1 r2 r3
theorem wpList_apRw {P : Program} {w : World} {ops : Array Oper} {rest : List Oper} {o : Oper} {a : Act} {Q : Exit → Act → World → Prop} (hgd : o.guard = none) (s x : Operand) (t : TypeId)
    (ho : o.op = .call { callee := .builtin .append, args := #[s, x], argTypes := #[t, t] })
    (base S : Nat) (e : TypeId) (z : Value) (bytes : Nat) (ht : P.underlying t = some (.slice e)) (hi : (P.info? e).map (fun i => (i.zero, i.size, i.bytes)) = some (some z, S, bytes)) (hz : z.cells.size = S) (hS : 0 < S)
    (v : Value) (n : Nat) (xs : List Value) (hs : a.eval s = v) (hown : w.ownsRow base e S v n xs) (xv : Value) (rows : List (List Value)) (hx : a.eval x = xv) (hrw : Rw S w xv rows) (hl : ∀ r ∈ rows, r.length = S) (h1 : ∀ u ∈ rows.flatten, u.oneCell' = true)
    (h63 : n + rows.length ≤ maxLen) (hbytes : (n + rows.length) * bytes ≤ 140737488355328) (hbase : base ≤ w.heap.size)
    (h : ∀ p m cap w', w'.ownsRow base e S (.slice p m cap) (n + rows.length) (xs ++ rows.flatten) → w.grownBy w' v.ownBlock → Below base w w' → wpList P ops Q rest (a.put o.dst (.slice p m cap)) w') :
    wpList P ops Q (o :: rest) a w := by
  obtain ⟨p, m, cap, w', hrun, r1, r2, r3⟩ := run_apRw (P := P) w base S t o.type e z bytes ht hi hz hS v n xs hown xv rows hrw hl h1 h63 hbytes hbase
  refine wpList_plain hgd fun K hK => ?_
  unfold Oper.wp execOp
  simp only [ho, resolve, invoke, builtin, Sem.run_bind, Sem.run_pure, Result.andThen_ok, List.map_toArray, List.map_cons, List.map_nil, hs, hx, hrun]
  exact hK _ _ (h p m cap w' r1 r2 r3)

/-- parts of a slice that reads as rows -/
theorem Rw.part {S : Nat} {w : World} {b off len cap : Nat} {rows : List (List Value)} (h : Rw S w (.slice (some ⟨b, off, none⟩) len cap) rows) (lo hi cap' : Nat) (h1 : lo ≤ hi) (h2 : hi ≤ len) (h3 : hi - lo ≤ cap') (h4 : cap' ≤ maxLen) :
    Rw S w (.slice (some ⟨b, off + lo * S, none⟩) (hi - lo) cap') ((rows.drop lo).take (hi - lo)) := by
  obtain ⟨a, n, c, he, hn, hc, hm, hr⟩ := h
  injection he with e1 e2 e3
  subst e2; subst e3
  refine ⟨_, _, _, rfl, by rw [List.length_take, List.length_drop]; omega, h3, h4, fun h0 => ⟨b, off + lo * S, rfl, fun i row hi2 j u hu => ?_⟩⟩
  obtain ⟨b', off', hb, hcell⟩ := hr (by omega)
  rw [← e1] at hb
  injection hb with hb
  injection hb with hb1 hb2
  subst hb1; subst hb2
  have hil : i < hi - lo := by
    have := (List.getElem?_eq_some_iff.1 hi2).1
    rw [List.length_take, List.length_drop] at this
    omega
  rw [List.getElem?_take_of_lt hil, List.getElem?_drop] at hi2
  have := hcell (lo + i) row hi2 j u hu
  rw [Nat.add_mul] at this
  rw [show off + lo * S + (i * S + j) = off + (lo * S + i * S + j) by omega]
  exact this
end Go.Proofs.Ytmhackiiiehlmaa
