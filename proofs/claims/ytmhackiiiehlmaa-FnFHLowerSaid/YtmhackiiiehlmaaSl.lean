/- Slices whose elements are one cell each, as walks read them: a value, a world, and the list of what the cells hold. No program in sight. -/
import Derived.Test.YtmhackiiiehlmaaMem
import Derived.ChangeSlices
import Derived.WideShapes
import Derived.WalkKit
import Derived.Laws.BitsAllLaws
import Derived.Laws.CopyOwn
import Derived.WalkSpells
namespace Go.Proofs.Ytmhackiiiehlmaa
set_option linter.unusedVariables false
open Go.RowKit

theorem addr_add (b off i : Nat) : (⟨b, off, none⟩ : Addr).add i = ⟨b, off + i, none⟩ := by
  unfold Addr.add; split <;> simp_all

/-- v is a slice that reads as vs in w -/
def Sl (w : World) (v : Value) (vs : List Value) : Prop :=
  ∃ (a : Option Addr) (n cap : Nat), v = .slice a n cap ∧ vs.length = n ∧ n ≤ cap ∧ cap ≤ maxLen ∧
    (0 < n → ∃ b off, a = some ⟨b, off, none⟩ ∧ ∀ i u, vs[i]? = some u → w.cell? ⟨b, off + i, none⟩ = some u)

theorem Sl.below {w w' : World} {v : Value} {vs : List Value} {B : Nat} (h : Sl w v vs) (hB : B = w.heap.size) (hb : Below B w w') : Sl w' v vs := by
  subst hB
  obtain ⟨a, n, cap, rfl, hn, hc, hm, hr⟩ := h
  refine ⟨a, n, cap, rfl, hn, hc, hm, fun h0 => ?_⟩
  obtain ⟨b, off, rfl, hcell⟩ := hr h0
  refine ⟨b, off, rfl, fun i u hu => ?_⟩
  have h1 := hcell i u hu
  have hlt := World.block_lt_of_cell? w _ h1
  rw [hb.cell (p := ⟨b, off + i, none⟩) hlt]
  exact h1

theorem Sl.nil (w : World) : Sl w (.slice none 0 0) [] := ⟨none, 0, 0, rfl, rfl, Nat.le_refl _, Nat.zero_le _, fun h => absurd h (Nat.lt_irrefl _)⟩

theorem Sl.of_owns {w : World} {B : Nat} {e : TypeId} {v : Value} {n : Nat} {vs : List Value} (h : w.ownsRow B e 1 v n vs) : Sl w v vs := by
  have hl := h.1
  rw [Nat.mul_one] at hl
  rcases h.2 with ⟨rfl, rfl⟩ | ⟨g, cap, cur, rfl, hbg, hg, hnc, hcm, hcs, htake⟩
  · obtain rfl : vs = [] := List.eq_nil_of_length_eq_zero hl
    exact Sl.nil w
  · refine ⟨some ⟨g, 0, none⟩, n, cap, rfl, hl, hnc, hcm, fun _ => ⟨g, 0, rfl, fun i u hu => ?_⟩⟩
    have := h.cells (g := g) rfl i u hu
    rwa [addr_add] at this

theorem Sl.length {w : World} {a : Option Addr} {n cap : Nat} {vs : List Value} (h : Sl w (.slice a n cap) vs) : vs.length = n := by
  obtain ⟨a', n', cap', e, hn, _⟩ := h
  simp only [Value.slice.injEq] at e
  omega

/-- a slice of integers of kind k: the numbers fit the kind -/
def IsInts (k : IntKind) (w : World) (v : Value) : Prop := ∃ xs : List Int, Sl w v (xs.map (Value.int k)) ∧ ∀ n ∈ xs, (Lit.int k n).wf = true

section
variable {P : Program} {H : Type} {enc : TypeId × Value → H} {W : World}
theorem ints_of_trod {t e : TypeId} {k : IntKind} {fuel : Nat} {a : Option Addr} {len cap : Nat} {x : DataW H × List MemPlace} (ht : P.underlying t = some (.slice e)) (he : P.underlying e = some (.int k)) (hc : P.cellsOf e = 1)
    (hf : DataW.trod enc P W 0 (fun _ => true) true fuel t [.slice a len cap] = some x) : IsInts k W (.slice a len cap) := by
  rcases ChangeShapes.open_ints ht he hc hf with ⟨hcs, _⟩ | ⟨x, l, c, zs, hcs, _, hl, hm, hz, _, hcell, hwz⟩
  · simp at hcs
    obtain ⟨rfl, rfl, rfl⟩ := hcs
    exact ⟨[], Sl.nil W, by simp⟩
  · simp at hcs
    obtain ⟨rfl, rfl, rfl⟩ := hcs
    simp at hz
    refine ⟨zs.take len, ⟨some x, len, cap, rfl, by simp; omega, hl, hm, fun h0 => ?_⟩, fun n hn => hwz n (List.mem_of_mem_take hn)⟩
    have c0 := hcell 0 (by omega)
    obtain ⟨b, off, spot⟩ := x
    have hspot : spot = none := by simpa [Addr.add] using World.cell?_spot c0
    subst hspot
    refine ⟨b, off, rfl, fun i u hu => ?_⟩
    rw [List.getElem?_map, List.getElem?_take] at hu
    split at hu
    · rename_i hi
      have hi2 : i < zs.length := by omega
      have := hcell i hi2
      rw [List.getElem?_eq_getElem hi2] at hu
      simp at hu
      subst hu
      rw [List.getD_eq_getElem?_getD, List.getElem?_eq_getElem hi2] at this
      rwa [addr_add] at this
    · simp at hu

theorem open_isints {t e : TypeId} {k : IntKind} {v : Value} {d : DataW H} {p : List MemPlace} {r : Reach} {b0 : Nat} (ht : P.underlying t = some (.slice e)) (he : P.underlying e = some (.int k)) (hc : P.cellsOf e = 1)
    (hv : Value.okWide P W r b0 t v) (h : DataW.Trod enc P W 0 (fun _ => true) true t v d p) : IsInts k W v := by
  obtain ⟨a, len, cap, rfl⟩ := WideShapes.okWide_slice ht hv
  obtain ⟨fuel, hf⟩ := h
  exact ints_of_trod ht he hc hf
end

theorem madeCells1 (z : Value) (n : Nat) (hz : z.cells = #[z]) : (madeCells z.cells (n * 1)).toList = List.replicate n z := by
  rw [hz, Nat.mul_one]; exact toList_madeCells_one z n

/-- make([]T, n), T of one cell -/
theorem wpList_make1 {P : Program} {w : World} {ops : Array Oper} {rest : List Oper} {o : Oper} {a : Act} {Q : Exit → Act → World → Prop}
    (hg : o.guard = none) (l c : Operand) (t : TypeId) (hop : o.op = Op.makeSlice t l c)
    (base : Nat) (e : TypeId) (z : Value) (bytes : Nat) (h1 : P.underlying t = some (.slice e)) (hi : (P.info? e).map (fun i => (i.zero, i.size, i.bytes)) = some (some z, 1, bytes)) (hz : z.cells = #[z])
    (kl kc : IntKind) (L C : Int) (n : Nat) (hl : a.eval l = .int kl L) (hc : a.eval c = .int kc C) (hL : L = (n : Int)) (hC : C = (n : Int)) (b2 : bytes * n ≤ 281474976710656) (b3 : n ≤ maxLen) (b4 : base ≤ w.heap.size)
    (hK : ∀ w', w'.ownsRow base e 1 (.slice (some ⟨w.heap.size, 0, none⟩) n n) n (List.replicate n z) → Below w.heap.size w w' → w.heap.size < w'.heap.size → wpList P ops Q rest (a.put o.dst (.slice (some ⟨w.heap.size, 0, none⟩) n n)) w') :
    wpList P ops Q (o :: rest) a w := by
  obtain ⟨i, h2, h3, h4, h5⟩ := info_parts hi
  refine wpList_make_full w hg l c t hop base e i z 1 h1 h2 h3 h4 kl kc L C n hl hc hL hC (by rw [h5]; exact b2) b3 b4 fun w' hown hgr => ?_
  rw [madeCells1 z n hz] at hown
  have hs := hown.lt w.heap.size rfl
  exact hK w' hown ((Below.refl _ _).grown hgr (Nat.le_refl _) (by simp)) hs.2

/-- append(v, u), v the call's own (or nil): u lies in the block that was laid for it -/
theorem wpList_append1 {P : Program} {w : World} {ops : Array Oper} {rest : List Oper} {o : Oper} {a : Act} {Q : Exit → Act → World → Prop} (hgd : o.guard = none) (s x : Operand) (t : TypeId)
    (ho : o.op = .call { callee := .builtin .append, args := #[s, x], argTypes := #[t, t] })
    (base : Nat) (e : TypeId) (z : Value) (bytes : Nat) (ht : P.underlying t = some (.slice e)) (hi : (P.info? e).map (fun i => (i.zero, i.size, i.bytes)) = some (some z, 1, bytes)) (hz : z.cells = #[z])
    (v : Value) (n : Nat) (xs : List Value) (hs : a.eval s = v) (hown : w.ownsRow base e 1 v n xs)
    (u : Value) (hx : a.eval x = .slice (some ⟨w.heap.size, 0, none⟩) 1 1) (h1 : u.oneCell' = true)
    (h63 : n + 1 ≤ maxLen) (hbytes : (n + 1) * bytes ≤ 140737488355328) (hbase : base ≤ w.heap.size)
    (h : ∀ g cap w', w'.ownsRow base e 1 (.slice (some ⟨g, 0, none⟩) (n + 1) cap) (n + 1) (xs ++ [u]) → w.grownBy w' v.ownBlock → Below base w w' → wpList P ops Q rest (a.put o.dst (.slice (some ⟨g, 0, none⟩) (n + 1) cap)) w') :
    wpList P ops Q (o :: rest) a (w.alloc (.cells #[u] e)) := by
  obtain ⟨i, h2, h3, h4, h5⟩ := info_parts hi
  have hw : (w.alloc (.cells #[u] e)).heap.size = w.heap.size + 1 := by simp
  refine wpList_append_own _ hgd s x t ho base e i z 1 bytes ht h2 h3 h4 h5 (by rw [hz]; rfl) (by omega) v n xs hs (hown.alloc _) ⟨w.heap.size, 0, none⟩ 1 1 [u] hx rfl (cell_one_new _ _ _) (by simpa using h1) h63 hbytes (by omega) fun v' w' hown' hgr hnil => ?_
  have hg2 : w.grownBy w' v.ownBlock := ⟨hgr.os, hgr.tape, hgr.output, by have := hgr.size; omega, fun k hk hne => (hgr.block k (by omega) hne).trans (Below.heap_alloc w _ k hk)⟩
  have hv' : ∃ g cap, v' = .slice (some ⟨g, 0, none⟩) (n + 1) cap := by
    rcases hown'.2 with ⟨e, _⟩ | ⟨g, cap, cur, e, _⟩
    · have := (hnil.1 e).2; omega
    · exact ⟨g, cap, e⟩
  obtain ⟨g, cap, rfl⟩ := hv'
  exact h g cap w' hown' hg2 ((Below.refl _ _).grown hg2 hbase fun k hk => (hown.lt k hk).1)

theorem append_types {P : Program} (w : World) (t u ty e e2 : TypeId) (ht : P.underlying t = some (.slice e)) (hu : P.underlying u = some (.slice e2)) (b : Option Addr) (n c : Nat) (x : Value) :
    (Builtin.append_ #[t, u] ty #[.slice b n c, x]).run P w = (Builtin.append_ #[t, t] ty #[.slice b n c, x]).run P w := by
  simp [Builtin.append_, run_underlying ht, run_underlying hu]

theorem run_append_empty {P : Program} (w : World) (base : Nat) (t ty e : TypeId) (i : TypeInfo) (ht : P.underlying t = some (.slice e)) (hi : P.info? e = some i) (hsz : i.size = 1)
    (v : Value) (n : Nat) (xs : List Value) (hown : w.ownsRow base e 1 v n xs) (a : Option Addr) (cap : Nat) :
    (Builtin.append_ #[t, t] ty #[v, .slice a 0 cap]).run P w = .ok v w := by
  rcases hown.2 with ⟨rfl, rfl⟩ | ⟨g, cap', cur, rfl, _, _, hnc, _⟩ <;> cases a <;>
    simp [Builtin.append_, run_underlying ht, sizeOf, typeInfo, hi, hsz, Builtin.lenOf, Builtin.firstCells, loadCells, loadCellsFrom, storeCells, *]

/-- append(v, l...), v the call's own (or nil), l any slice -/
theorem wpList_appendSl {P : Program} {w : World} {ops : Array Oper} {rest : List Oper} {o : Oper} {a : Act} {Q : Exit → Act → World → Prop} (hgd : o.guard = none) (s x : Operand) (t u : TypeId)
    (ho : o.op = .call { callee := .builtin .append, args := #[s, x], argTypes := #[t, u] })
    (base : Nat) (e e2 : TypeId) (z : Value) (bytes : Nat) (ht : P.underlying t = some (.slice e)) (hu : P.underlying u = some (.slice e2)) (hi : (P.info? e).map (fun i => (i.zero, i.size, i.bytes)) = some (some z, 1, bytes)) (hz : z.cells = #[z])
    (v : Value) (n : Nat) (xs : List Value) (hs : a.eval s = v) (hown : w.ownsRow base e 1 v n xs)
    (xv : Value) (vs : List Value) (hx : a.eval x = xv) (hsl : Sl w xv vs) (h1 : ∀ u ∈ vs, u.oneCell' = true)
    (h63 : n + vs.length ≤ maxLen) (hbytes : (n + vs.length) * bytes ≤ 140737488355328) (hbase : base ≤ w.heap.size)
    (h : ∀ p m cap w', w'.ownsRow base e 1 (.slice p m cap) (n + vs.length) (xs ++ vs) → w.grownBy w' v.ownBlock → Below base w w' → wpList P ops Q rest (a.put o.dst (.slice p m cap)) w') :
    wpList P ops Q (o :: rest) a w := by
  obtain ⟨i, h2, h3, h4, h5⟩ := info_parts hi
  obtain ⟨ad, m, cap, rfl, hl, hmc, hcm, hr⟩ := hsl
  have run : ∃ v' w', (Builtin.append_ #[t, u] o.type #[v, .slice ad m cap]).run P w = .ok v' w' ∧ w'.ownsRow base e 1 v' (n + vs.length) (xs ++ vs) ∧ w.grownBy w' v.ownBlock := by
    have hv : ∃ b0 n0 c0, v = .slice b0 n0 c0 := by
      rcases hown.2 with ⟨rfl, _⟩ | ⟨g, cap', cur, rfl, _⟩
      · exact ⟨_, _, _, rfl⟩
      · exact ⟨_, _, _, rfl⟩
    have ety : (Builtin.append_ #[t, u] o.type #[v, .slice ad m cap]).run P w = (Builtin.append_ #[t, t] o.type #[v, .slice ad m cap]).run P w := by
      obtain ⟨b0, n0, c0, rfl⟩ := hv
      exact append_types w t u o.type e e2 ht hu b0 n0 c0 _
    rw [ety]
    by_cases hm : m = 0
    · subst hm
      obtain rfl : vs = [] := List.eq_nil_of_length_eq_zero hl
      exact ⟨v, w, run_append_empty w base t o.type e i ht h2 h4 v n xs hown ad cap, by simpa using hown, ⟨rfl, rfl, rfl, Nat.le_refl _, fun _ _ _ => rfl⟩⟩
    · obtain ⟨b, off, rfl, hcell⟩ := hr (by omega)
      obtain ⟨v', w', hrun, ho1, ho2, _⟩ := run_append_own (P := P) w base t o.type e i z 1 bytes ht h2 h3 h4 h5 (by rw [hz]; rfl) (by omega) v n xs hown ⟨b, off, none⟩ m cap vs (by omega) (fun j u hu => by rw [addr_add]; exact hcell j u hu) h1 (by omega) (by rw [← hl]; exact hbytes) hbase
      exact ⟨v', w', hrun, by rw [hl]; exact ho1, ho2⟩
  obtain ⟨v', w', hrun, ho1, ho2⟩ := run
  refine wpList_plain hgd fun K hK => ?_
  unfold Oper.wp execOp
  simp only [ho, resolve, invoke, builtin, Sem.run_bind, Sem.run_pure, Result.andThen_ok, List.map_toArray, List.map_cons, List.map_nil, hs, hx, hrun]
  have hv' : ∃ p m cap, v' = .slice p m cap := by
    rcases ho1.2 with ⟨e, _⟩ | ⟨g, cap, cur, e, _⟩ <;> exact ⟨_, _, _, e⟩
  obtain ⟨p, m', cap', rfl⟩ := hv'
  exact hK _ _ (h p m' cap' w' ho1 ho2 ((Below.refl _ _).grown ho2 hbase fun k hk => (hown.lt k hk).1))

/-- make([]T, n, c), T of one cell -/
theorem wpList_make2 {P : Program} {w : World} {ops : Array Oper} {rest : List Oper} {o : Oper} {a : Act} {Q : Exit → Act → World → Prop}
    (hg : o.guard = none) (l c : Operand) (t : TypeId) (hop : o.op = Op.makeSlice t l c)
    (base : Nat) (e : TypeId) (z : Value) (bytes : Nat) (h1 : P.underlying t = some (.slice e)) (hi : (P.info? e).map (fun i => (i.zero, i.size, i.bytes)) = some (some z, 1, bytes)) (hz : z.cells = #[z])
    (kl kc : IntKind) (L C : Int) (n m : Nat) (hl : a.eval l = .int kl L) (hc : a.eval c = .int kc C) (hL : L = (n : Int)) (hC : C = (m : Int)) (hnm : n ≤ m) (b2 : bytes * m ≤ 281474976710656) (b3 : m ≤ maxLen) (b4 : base ≤ w.heap.size)
    (hK : ∀ w', w'.ownsRow base e 1 (.slice (some ⟨w.heap.size, 0, none⟩) n m) n (List.replicate n z) → Below w.heap.size w w' → w.heap.size < w'.heap.size → wpList P ops Q rest (a.put o.dst (.slice (some ⟨w.heap.size, 0, none⟩) n m)) w') :
    wpList P ops Q (o :: rest) a w := by
  obtain ⟨i, h2, h3, h4, h5⟩ := info_parts hi
  subst hL
  subst hC
  have b3' : (m : Int) ≤ 9223372036854775807 := by unfold maxLen at b3; omega
  have hb' : (i.bytes : Int) * (m : Int) ≤ 281474976710656 := by
    rw [h5]
    have h : ((bytes * m : Nat) : Int) ≤ 281474976710656 := by omega
    rwa [Int.natCast_mul] at h
  have hr := run_make (P := P) w t e i z h1 h2 h3 kl kc n m (by omega) (by omega) hb' b3'
  simp only [Int.toNat_natCast] at hr
  have hown : (w.alloc (.cells (madeCells z.cells (m * i.size)) e)).ownsRow base e 1 (.slice (some ⟨w.heap.size, 0, none⟩) n m) n (List.replicate n z) := by
    refine ⟨by simp, .inr ⟨w.heap.size, m, _, rfl, b4, heap_alloc_new w _, hnm, b3, ?_, ?_⟩⟩
    · rw [size_madeCells, h4]
    · rw [h4, madeCells1 z m hz, Nat.mul_one, List.take_replicate, Nat.min_eq_left hnm]
  refine wpList_plain hg fun K hK' => ?_
  unfold Oper.wp
  simp [execOp, hop, hl, hc, hr, Result.andThen]
  exact hK' _ _ (hK _ hown ((Below.refl _ _).alloc (Nat.le_refl _) _) (by simp))

/-- copy(d, s): d the call's own, s any slice that is no longer -/
theorem wpList_copySl {P : Program} {w : World} {ops : Array Oper} {rest : List Oper} {o : Oper} {a : Act} {Q : Exit → Act → World → Prop} (hgd : o.guard = none) (d s : Operand) (dT sT : TypeId)
    (ho : o.op = .call { callee := .builtin .copy, args := #[d, s], argTypes := #[dT, sT] }) (base : Nat) (e : TypeId) (z : Value) (bytes : Nat) (hu : P.underlying dT = some (.slice e)) (hi : (P.info? e).map (fun i => (i.zero, i.size, i.bytes)) = some (some z, 1, bytes))
    (g n cap : Nat) (xs : List Value) (hd : a.eval d = .slice (some ⟨g, 0, none⟩) n cap) (hown : w.ownsRow base e 1 (.slice (some ⟨g, 0, none⟩) n cap) n xs)
    (sv : Value) (vs : List Value) (hs : a.eval s = sv) (hsl : Sl w sv vs) (hle : vs.length ≤ n) (h1 : ∀ u ∈ vs, u.oneCell' = true)
    (h : ∀ w', w'.ownsRow base e 1 (.slice (some ⟨g, 0, none⟩) n cap) n (vs ++ xs.drop vs.length) → w.grownBy w' (some g) → Below base w w' → wpList P ops Q rest (a.put o.dst (goInt vs.length)) w') :
    wpList P ops Q (o :: rest) a w := by
  obtain ⟨i, h2, h3, h4, h5⟩ := info_parts hi
  have hsz : (P.info? e).map (·.size) = some 1 := by rw [h2]; simp [h4]
  obtain ⟨ad, m, cap2, rfl, hl, hmc, hcm, hr⟩ := hsl
  by_cases hm : m = 0
  · subst hm
    obtain rfl : vs = [] := List.eq_nil_of_length_eq_zero hl
    refine wpList_copy_nothing hgd d s dT sT ho e hu hsz _ _ _ _ _ _ hd hs (by simp) ?_
    exact h w (by simpa using hown) ⟨rfl, rfl, rfl, Nat.le_refl _, fun _ _ _ => rfl⟩ (Below.refl _ _)
  · obtain ⟨b, off, rfl, hcell⟩ := hr (by omega)
    have hlen := hown.1
    rcases hown.2 with ⟨e0, _⟩ | ⟨g', cap', cur, e0, hbg, hg, hnc, hcmx, hcs, htake⟩
    · simp at e0
    · simp only [Value.slice.injEq, Option.some.injEq, Addr.mk.injEq, and_true, true_and] at e0
      obtain ⟨rfl, rfl⟩ := e0
      refine wpList_copy_own hgd d s dT sT ho e hu hsz g 0 n cap ⟨b, off, none⟩ m cap2 hd hs cur e hg vs (by rw [hl]; exact (Nat.min_eq_left (by omega)).symm) (fun j v hj => by rw [addr_add]; exact hcell j v hj) (by omega) h1 ?_
      simp only [List.take_zero, List.nil_append, Nat.zero_add]
      refine h _ ⟨?_, .inr ⟨g, cap, _, rfl, hbg, setRow_heap w g _ _ e _ hg, hnc, hcmx, ?_, ?_⟩⟩ ⟨rfl, rfl, rfl, by simp [World.setRow], fun k hk hne => setRow_other w g k _ (fun e => hne (by rw [e]))⟩ (below_setRow (Below.refl _ _) hbg _)
      · rw [Nat.mul_one] at hlen ⊢; simp; omega
      · simp; omega
      · rw [Nat.mul_one] at htake hlen ⊢
        simp only [List.toList_toArray]
        rw [← htake, List.take_append, List.take_of_length_le (by omega), List.drop_take]
end Go.Proofs.Ytmhackiiiehlmaa
