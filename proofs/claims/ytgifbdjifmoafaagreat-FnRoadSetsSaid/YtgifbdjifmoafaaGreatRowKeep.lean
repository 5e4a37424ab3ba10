/- append onto the call's own slice of structs: the old slice stays what it was. No program in sight. -/
import Derived.Test.YtgifbdjifmoafaaGreatRow
import Derived.Maps.AppendAt
namespace Go.Proofs.YtgifbdjifmoafaaGreat
set_option linter.unusedVariables false
open Go.RowKit

theorem run_append_keep {P : Program} (w : World) (base : Nat) (t ty e : TypeId) (i : TypeInfo) (z : Value) (size bytes : Nat) (ht : P.underlying t = some (.slice e)) (hi : P.info? e = some i) (hz : i.zero = some z)
    (hsize : i.size = size) (hby : i.bytes = bytes) (hzs : z.cells.size = size) (hsz : 0 < size)
    (v : Value) (n : Nat) (xs : List Value) (hown : w.ownsRow base e size v n xs)
    (a : Addr) (m c : Nat) (news : List Value) (hl : news.length = m * size) (hnews : ∀ j u, news[j]? = some u → w.cell? (a.add j) = some u) (h1 : ∀ u ∈ news, u.oneCell' = true)
    (h63 : n + m ≤ maxLen) (hbytes : (n + m) * bytes ≤ 140737488355328) (v' : Value) (w' : World) (hr : (Builtin.append_ #[t, t] ty #[v, .slice (some a) m c]).run P w = .ok v' w')
    (hown' : w'.ownsRow base e size v' (n + m) (xs ++ news)) : w'.ownsRow base e size v n xs := by
  subst hsize
  subst hby
  refine ⟨hown.1, ?_⟩
  rcases hown.2 with h0 | ⟨g, cap, cur, rfl, hbg, hg, hnc, hcm, hcs, htake⟩
  · exact .inl h0
  · by_cases hroom : n + m ≤ cap
    · have hfit : n * i.size + news.length ≤ cur.size := by rw [hl, hcs, ← Nat.add_mul]; exact Nat.mul_le_mul_right _ hroom
      have hr2 := run_append_room (P := P) w t ty e i ht hi g n cap cur hg a m c news hl hnews h1 hroom hfit
      rw [hr2] at hr
      injection hr with e1 e2
      subst e1
      rcases hown'.2 with ⟨e3, _⟩ | ⟨g', cap', cur', e3, hbg', hg', hnc', hcm', hcs', htake'⟩
      · cases e3
      · injection e3 with e4 _ e5
        injection e4 with e4
        have e6 : g' = g := by injection e4 with e4; exact e4.symm
        subst e6; subst e5
        refine .inr ⟨_, _, cur', rfl, hbg, hg', hnc, hcm, hcs', ?_⟩
        have h2 := congrArg (List.take (n * i.size)) htake'
        rw [List.take_take, Nat.min_eq_left (Nat.mul_le_mul_right _ (Nat.le_add_right _ _))] at h2
        rw [h2, ← hown.1]
        exact List.take_left
    · have holds : ∀ j u, xs[j]? = some u → w.cell? ((⟨g, 0, none⟩ : Addr).add j) = some u := hown.cells (g := g) rfl
      have hr2 := run_append_grow (P := P) w t ty e i z ht hi hz ⟨g, 0, none⟩ n cap xs hown.1 holds a m c news hl hnews (by omega) (by simp only [maxLen] at h63; omega) (growslice_fits (by omega) hbytes)
      rw [hr2] at hr
      injection hr with e1 e2
      refine .inr ⟨g, cap, cur, rfl, hbg, ?_, hnc, hcm, hcs, htake⟩
      rw [← e2]
      have hlt : g < w.drew.heap.size := (Array.getElem?_eq_some_iff.1 hg).1
      exact (heap_alloc_old w.drew _ hlt).trans hg

/-- wpList_appendS, and the old slice stays -/
theorem wpList_appendSK {P : Program} {w : World} {ops : Array Oper} {rest : List Oper} {o : Oper} {a : Act} {Q : Exit → Act → World → Prop} (hgd : o.guard = none) (s x : Operand) (t : TypeId)
    (ho : o.op = .call { callee := .builtin .append, args := #[s, x], argTypes := #[t, t] })
    (base S : Nat) (e : TypeId) (z : Value) (bytes : Nat) (ht : P.underlying t = some (.slice e)) (hi : (P.info? e).map (fun i => (i.zero, i.size, i.bytes)) = some (some z, S, bytes)) (hz : z.cells.size = S) (hS : 0 < S)
    (v : Value) (n : Nat) (xs : List Value) (hs : a.eval s = v) (hown : w.ownsRow base e S v n xs)
    (us : Array Value) (hx : a.eval x = .slice (some ⟨w.heap.size, 0, none⟩) 1 1) (hus : us.size = S) (h1 : ∀ u ∈ us.toList, u.oneCell' = true)
    (h63 : n + 1 ≤ maxLen) (hbytes : (n + 1) * bytes ≤ 140737488355328) (hbase : base ≤ w.heap.size)
    (h : ∀ g cap w', w'.ownsRow base e S (.slice (some ⟨g, 0, none⟩) (n + 1) cap) (n + 1) (xs ++ us.toList) → w'.ownsRow base e S v n xs → w.grownBy w' v.ownBlock → Below base w w' → wpList P ops Q rest (a.put o.dst (.slice (some ⟨g, 0, none⟩) (n + 1) cap)) w') :
    wpList P ops Q (o :: rest) a (w.alloc (.cells us e)) := by
  obtain ⟨i, h2, h3, h4, h5⟩ := info_parts hi
  have hw : (w.alloc (.cells us e)).heap.size = w.heap.size + 1 := by simp
  have hcells : ∀ j u, us.toList[j]? = some u → (w.alloc (.cells us e)).cell? ((⟨w.heap.size, 0, none⟩ : Addr).add j) = some u := by
    intro j u hu
    rw [addr_add, Nat.zero_add]
    refine (Blk.new w e us).cell j ?_
    rw [← Array.getElem?_toList]
    exact hu
  refine wpList_plain hgd fun K hK => ?_
  obtain ⟨v', w', hr, hown', hgr, hnil, _⟩ := run_append_own_at (P := P) (w.alloc (.cells us e)) base t o.type e i z S bytes ht h2 h3 h4 h5 hz hS v n xs (hown.alloc _) ⟨w.heap.size, 0, none⟩ 1 1 us.toList (by simpa using hus) hcells h1 h63 hbytes (by omega)
  have hkeep := run_append_keep (P := P) (w.alloc (.cells us e)) base t o.type e i z S bytes ht h2 h3 h4 h5 hz hS v n xs (hown.alloc _) ⟨w.heap.size, 0, none⟩ 1 1 us.toList (by simpa using hus) hcells h1 h63 hbytes v' w' hr hown'
  have hg2 : w.grownBy w' v.ownBlock := ⟨hgr.os, hgr.tape, hgr.output, by have := hgr.size; omega, fun k hk hne => (hgr.block k (by omega) hne).trans (Below.heap_alloc w _ k hk)⟩
  have hv' : ∃ g cap, v' = .slice (some ⟨g, 0, none⟩) (n + 1) cap := by
    rcases hown'.2 with ⟨e, _⟩ | ⟨g, cap, cur, e, _⟩
    · have := (hnil.1 e).2; omega
    · exact ⟨g, cap, e⟩
  obtain ⟨g, cap, rfl⟩ := hv'
  unfold Oper.wp execOp
  simp only [ho, resolve, invoke, builtin, Sem.run_bind, Sem.run_pure, Result.andThen_ok, List.map_toArray, List.map_cons, List.map_nil, hs, hx, hr]
  exact hK _ _ (h g cap w' hown' hkeep hg2 ((Below.refl _ _).grown hg2 hbase fun k hk => (hown.lt k hk).1))
end Go.Proofs.YtgifbdjifmoafaaGreat
