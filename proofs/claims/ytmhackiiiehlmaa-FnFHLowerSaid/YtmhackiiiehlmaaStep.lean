/- Appends as steps of regions that draw their order. No program in sight. -/
import Derived.Test.YtmhackiiiehlmaaSl
import Derived.Deep.RegionHeld3
namespace Go.Proofs.Ytmhackiiiehlmaa
set_option linter.unusedVariables false
open Go.RowKit

theorem step_apSl {P : Program} {w : World} {ops : Array Oper} {o : Oper} {a : Act} {K : Act → World → Prop} {Q : Exit → Act → World → Prop} {E : Prop} (hgd : o.guard = none) (s x : Operand) (t u : TypeId)
    (ho : o.op = .call { callee := .builtin .append, args := #[s, x], argTypes := #[t, u] })
    (base : Nat) (e e2 : TypeId) (z : Value) (bytes : Nat) (ht : P.underlying t = some (.slice e)) (hu : P.underlying u = some (.slice e2)) (hi : (P.info? e).map (fun i => (i.zero, i.size, i.bytes)) = some (some z, 1, bytes)) (hz : z.cells = #[z])
    (v : Value) (n : Nat) (xs : List Value) (hs : a.eval s = v) (hown : w.ownsRow base e 1 v n xs)
    (xv : Value) (vs : List Value) (hx : a.eval x = xv) (hsl : Sl w xv vs) (h1 : ∀ u ∈ vs, u.oneCell' = true)
    (h63 : n + vs.length ≤ maxLen) (hbytes : (n + vs.length) * bytes ≤ 140737488355328) (hbase : base ≤ w.heap.size)
    (h : ∀ p m cap w', w'.ownsRow base e 1 (.slice p m cap) (n + vs.length) (xs ++ vs) → w.grownBy w' v.ownBlock → Below base w w' → K (a.put o.dst (.slice p m cap)) w') :
    if Region.wanted o (yielded ops a.tmps) = true then Oper.wp P o a w K Q else E := by
  obtain ⟨i, h2, h3, h4, h5⟩ := info_parts hi
  obtain ⟨ad, m, cap, rfl, hl, hmc, hcm, hr⟩ := hsl
  have run : ∃ v' w', (Builtin.append_ #[t, u] o.type #[v, .slice ad m cap]).run P w = .ok v' w' ∧ w'.ownsRow base e 1 v' (n + vs.length) (xs ++ vs) ∧ w.grownBy w' v.ownBlock := by
    have hv : ∃ b0 n0 c0, v = .slice b0 n0 c0 := by
      rcases hown.2 with ⟨rfl, _⟩ | ⟨g, cap', cur, rfl, _⟩
      · exact ⟨_, _, _, rfl⟩
      · exact ⟨_, _, _, rfl⟩
    have ety : (Builtin.append_ #[t, u] o.type #[v, .slice ad m cap]).run P w = (Builtin.append_ #[t, t] o.type #[v, .slice ad m cap]).run P w := by
      obtain ⟨b0, n0, c0, rfl⟩ := hv
      exact append_types w t u o.type e e2 ht hu b0 n0 c0 _
    rw [ety]
    by_cases hm : m = 0
    · subst hm
      obtain rfl : vs = [] := List.eq_nil_of_length_eq_zero hl
      exact ⟨v, w, run_append_empty w base t o.type e i ht h2 h4 v n xs hown ad cap, by simpa using hown, ⟨rfl, rfl, rfl, Nat.le_refl _, fun _ _ _ => rfl⟩⟩
    · obtain ⟨b, off, rfl, hcell⟩ := hr (by omega)
      obtain ⟨v', w', hrun, ho1, ho2, _⟩ := run_append_own (P := P) w base t o.type e i z 1 bytes ht h2 h3 h4 h5 (by rw [hz]; rfl) (by omega) v n xs hown ⟨b, off, none⟩ m cap vs (by omega) (fun j u hu => by rw [addr_add]; exact hcell j u hu) h1 (by omega) (by rw [← hl]; exact hbytes) hbase
      exact ⟨v', w', hrun, by rw [hl]; exact ho1, ho2⟩
  obtain ⟨v', w', hrun, ho1, ho2⟩ := run
  have hwd : Region.wanted o (yielded ops a.tmps) = true := by simp [Region.wanted, hgd]
  rw [if_pos hwd]
  unfold Oper.wp execOp
  simp only [ho, resolve, invoke, builtin, Sem.run_bind, Sem.run_pure, Result.andThen_ok, List.map_toArray, List.map_cons, List.map_nil, hs, hx, hrun]
  have hv' : ∃ p m cap, v' = .slice p m cap := by
    rcases ho1.2 with ⟨e, _⟩ | ⟨g, cap, cur, e, _⟩ <;> exact ⟨_, _, _, e⟩
  obtain ⟨p, m', cap', rfl⟩ := hv'
  exact h p m' cap' w' ho1 ho2 ((Below.refl _ _).grown ho2 hbase fun k hk => (hown.lt k hk).1)

/-- a call of a function by its contract, as one step of a region that draws -/
theorem step_call {P : Program} {w : World} {ops : Array Oper} {o : Oper} {a : Act} {K : Act → World → Prop} {Q : Exit → Act → World → Prop} {E : Prop} (hgd : o.guard = none) (f : FuncId) (xs : Array Operand) (ts : Array TypeId)
    (ho : o.op = .call { callee := .value (.func f), args := xs, argTypes := ts }) (hcf : ∀ (args : Array Value) (w : World), (callFunc f args).run P w = .ok (.enter f args) w) (args : Array Value) (hx : xs.map a.eval = args) {R : Ending → World → Prop} (hc : Calls P f args w R)
    (hR : ∀ e w', R e w' → ∃ v, e = .returned v ∧ K (a.put o.dst v) w') :
    if Region.wanted o (yielded ops a.tmps) = true then Oper.wp P o a w K Q else E := by
  have hwd : Region.wanted o (yielded ops a.tmps) = true := by simp [Region.wanted, hgd]
  rw [if_pos hwd]
  unfold Oper.wp
  have hrun : (execOp a.eval o).run P w = .ok (.enter f args) w := by
    simp [execOp, ho, resolve, invoke, Act.eval, Deferred.ofValue, hcf, ← hx, Result.andThen]
  rw [hrun, Oper.upon_enter]
  exact hc.mono fun e w' h => by
    obtain ⟨v, rfl, hk⟩ := hR e w' h
    exact hk

theorem step_call1 {P : Program} {w : World} {ops : Array Oper} {o : Oper} {a : Act} {K : Act → World → Prop} {Q : Exit → Act → World → Prop} {E : Prop} (hgd : o.guard = none) (f : FuncId) (x0 : Operand) (ts : Array TypeId)
    (ho : o.op = .call { callee := .value (.func f), args := #[x0], argTypes := ts }) (hcf : ∀ (args : Array Value) (w : World), (callFunc f args).run P w = .ok (.enter f args) w) (v0 : Value) (h0 : a.eval x0 = v0) {R : Ending → World → Prop} (hc : Calls P f #[v0] w R)
    (hR : ∀ e w', R e w' → ∃ v, e = .returned v ∧ K (a.put o.dst v) w') :
    if Region.wanted o (yielded ops a.tmps) = true then Oper.wp P o a w K Q else E :=
  step_call hgd f _ ts ho hcf _ (by simp [h0]) hc hR

theorem step_call2 {P : Program} {w : World} {ops : Array Oper} {o : Oper} {a : Act} {K : Act → World → Prop} {Q : Exit → Act → World → Prop} {E : Prop} (hgd : o.guard = none) (f : FuncId) (x0 x1 : Operand) (ts : Array TypeId)
    (ho : o.op = .call { callee := .value (.func f), args := #[x0, x1], argTypes := ts }) (hcf : ∀ (args : Array Value) (w : World), (callFunc f args).run P w = .ok (.enter f args) w) (v0 v1 : Value) (h0 : a.eval x0 = v0) (h1 : a.eval x1 = v1) {R : Ending → World → Prop} (hc : Calls P f #[v0, v1] w R)
    (hR : ∀ e w', R e w' → ∃ v, e = .returned v ∧ K (a.put o.dst v) w') :
    if Region.wanted o (yielded ops a.tmps) = true then Oper.wp P o a w K Q else E :=
  step_call hgd f _ ts ho hcf _ (by simp [h0, h1]) hc hR

theorem step_call3 {P : Program} {w : World} {ops : Array Oper} {o : Oper} {a : Act} {K : Act → World → Prop} {Q : Exit → Act → World → Prop} {E : Prop} (hgd : o.guard = none) (f : FuncId) (x0 x1 x2 : Operand) (ts : Array TypeId)
    (ho : o.op = .call { callee := .value (.func f), args := #[x0, x1, x2], argTypes := ts }) (hcf : ∀ (args : Array Value) (w : World), (callFunc f args).run P w = .ok (.enter f args) w) (v0 v1 v2 : Value) (h0 : a.eval x0 = v0) (h1 : a.eval x1 = v1) (h2 : a.eval x2 = v2) {R : Ending → World → Prop} (hc : Calls P f #[v0, v1, v2] w R)
    (hR : ∀ e w', R e w' → ∃ v, e = .returned v ∧ K (a.put o.dst v) w') :
    if Region.wanted o (yielded ops a.tmps) = true then Oper.wp P o a w K Q else E :=
  step_call hgd f _ ts ho hcf _ (by simp [h0, h1, h2]) hc hR

theorem sl_new (w : World) (u : Value) (e : TypeId) : Sl (w.alloc (.cells #[u] e)) (.slice (some ⟨w.heap.size, 0, none⟩) 1 1) [u] :=
  ⟨_, 1, 1, rfl, rfl, Nat.le_refl _, by unfold maxLen; omega, fun _ => ⟨w.heap.size, 0, rfl, fun i v hv => by
    cases i with
    | zero =>
      have : u = v := by simpa using hv
      subst this
      exact (One.new w e u).cell
    | succ i => simp at hv⟩⟩
theorem sl_newD (w : World) (u : Value) (e : TypeId) : Sl (w.alloc (.cells #[u] e)).drew (.slice (some ⟨w.heap.size, 0, none⟩) 1 1) [u] :=
  (sl_new w u e).below rfl (Below.refl _ _).drew
theorem row_drew {w : World} {B : Nat} {e : TypeId} {size : Nat} {v : Value} {n : Nat} {xs : List Value} (h : w.ownsRow B e size v n xs) : w.drew.ownsRow B e size v n xs := h
theorem gb_refl (a : World) (row : Option Nat) : a.grownBy a row := ⟨rfl, rfl, rfl, Nat.le_refl _, fun _ _ _ => rfl⟩
theorem gb_drew {a w : World} {row : Option Nat} (h : a.grownBy w row) : a.grownBy w.drew row := ⟨h.os, h.tape, h.output, h.size, h.block⟩
theorem gb_alloc {a w : World} {row : Option Nat} (h : a.grownBy w row) (o : Obj) : a.grownBy (w.alloc o) row :=
  ⟨h.os, h.tape, h.output, by have := h.size; simp; omega, fun k hk hne => (Below.heap_alloc w o k (Nat.lt_of_lt_of_le hk h.size)).trans (h.block k hk hne)⟩
theorem gb_store {a w : World} {g : Nat} (h : a.grownBy w (some g)) {p : Addr} (hp : p.block = g ∨ a.heap.size ≤ p.block) (u : Value) : a.grownBy (w.setCell p u) (some g) :=
  ⟨h.os, h.tape, h.output, by have := h.size; simpa using this, fun k hk hne => (Below.heap_setCell w p u k (fun e => by rcases hp with h1 | h1; exact hne (by rw [e, h1]); omega)).trans (h.block k hk hne)⟩
theorem gb_step {a w w' : World} {row r2 : Option Nat} (h : a.grownBy w row) (hg : w.grownBy w' r2) (hr : ∀ k, r2 = some k → some k = row ∨ a.heap.size ≤ k) : a.grownBy w' row :=
  ⟨hg.os.trans h.os, hg.tape.trans h.tape, hg.output.trans h.output, Nat.le_trans h.size hg.size, fun k hk hne => (hg.block k (Nat.lt_of_lt_of_le hk h.size) (fun e => by rcases hr k e.symm with h1 | h1; exact hne h1; omega)).trans (h.block k hk hne)⟩
theorem gb_below {a w w' : World} {row : Option Nat} (h : a.grownBy w row) (hb : Below w.heap.size w w') : a.grownBy w' row :=
  ⟨hb.os.trans h.os, hb.tape.trans h.tape, hb.output.trans h.output, Nat.le_trans h.size hb.size, fun k hk hne => (hb.block k (Nat.lt_of_lt_of_le hk h.size)).trans (h.block k hk hne)⟩
theorem alloc_keep {w : World} {a : Addr} {v : Value} (h : w.cell? a = some v) (o : Obj) : (w.alloc o).cell? a = some v :=
  (((Below.refl w.heap.size w).alloc (Nat.le_refl _) o).cell (World.block_lt_of_cell? w _ h)).trans h
theorem drew_keep {w : World} {a : Addr} {v : Value} (h : w.cell? a = some v) : w.drew.cell? a = some v := h
theorem set_keep {w : World} {a p : Addr} {v u : Value} (h : w.cell? a = some v) (hne : a.block ≠ p.block) : (w.setCell p u).cell? a = some v := by
  rw [← h]
  exact World.cell?_of_block (Below.heap_setCell w p u a.block hne)
end Go.Proofs.Ytmhackiiiehlmaa
