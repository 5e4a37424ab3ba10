/- The step law of append of a slice; small facts for the law FnBSCopy. -/
import Derived.Test.YtbcbkieebelleaaBsTwoHead
import Derived.Test.YtbcbkieebelleaaBsCopyImpl
import Derived.Test.YtbcbkieebelleaaBsDelSpec
namespace Go.Proofs.Ytbcbkieebelleaa
set_option linter.unusedVariables false
open Go.RowKit
theorem step_appendSl {P : Program} {w : World} {ops : Array Oper} {o : Oper} {a : Act} {K : Act → World → Prop} {Q : Exit → Act → World → Prop} {E : Prop} (hgd : o.guard = none) (s x : Operand) (t u : TypeId)
    (ho : o.op = .call { callee := .builtin .append, args := #[s, x], argTypes := #[t, u] })
    (base : Nat) (e e2 : TypeId) (z : Value) (bytes : Nat) (ht : P.underlying t = some (.slice e)) (hu : P.underlying u = some (.slice e2)) (hi : (P.info? e).map (fun i => (i.zero, i.size, i.bytes)) = some (some z, 1, bytes)) (hz : z.cells = #[z])
    (v : Value) (n : Nat) (xs : List Value) (hs : a.eval s = v) (hown : w.ownsRow base e 1 v n xs)
    (xv : Value) (vs : List Value) (hx : a.eval x = xv) (hsl : Sl w xv vs) (h1 : ∀ u ∈ vs, u.oneCell' = true)
    (h63 : n + vs.length ≤ maxLen) (hbytes : (n + vs.length) * bytes ≤ 140737488355328) (hbase : base ≤ w.heap.size)
    (h : ∀ p m cap w', w'.ownsRow base e 1 (.slice p m cap) (n + vs.length) (xs ++ vs) → w.grownBy w' v.ownBlock → Below base w w' → K (a.put o.dst (.slice p m cap)) w') :
    if Region.wanted o (yielded ops a.tmps) = true then Oper.wp P o a w K Q else E := by
  obtain ⟨i, h2, h3, h4, h5⟩ := info_parts hi
  obtain ⟨ad, m, cap, rfl, hl, hmc, hcm, hr⟩ := hsl
  have run : ∃ v' w', (Builtin.append_ #[t, u] o.type #[v, .slice ad m cap]).run P w = .ok v' w' ∧ w'.ownsRow base e 1 v' (n + vs.length) (xs ++ vs) ∧ w.grownBy w' v.ownBlock := by
    have hv : ∃ b0 n0 c0, v = .slice b0 n0 c0 := by
      rcases hown.2 with ⟨rfl, _⟩ | ⟨g, cap', cur, rfl, _⟩
      · exact ⟨_, _, _, rfl⟩
      · exact ⟨_, _, _, rfl⟩
    have ety : (Builtin.append_ #[t, u] o.type #[v, .slice ad m cap]).run P w = (Builtin.append_ #[t, t] o.type #[v, .slice ad m cap]).run P w := by
      obtain ⟨b0, n0, c0, rfl⟩ := hv
      exact append_types w t u o.type e e2 ht hu b0 n0 c0 _
    rw [ety]
    by_cases hm : m = 0
    · subst hm
      obtain rfl : vs = [] := List.eq_nil_of_length_eq_zero hl
      exact ⟨v, w, run_append_empty w base t o.type e i ht h2 h4 v n xs hown ad cap, by simpa using hown, ⟨rfl, rfl, rfl, Nat.le_refl _, fun _ _ _ => rfl⟩⟩
    · obtain ⟨b, off, rfl, hcell⟩ := hr (by omega)
      obtain ⟨v', w', hrun, ho1, ho2, _⟩ := run_append_own (P := P) w base t o.type e i z 1 bytes ht h2 h3 h4 h5 (by rw [hz]; rfl) (by omega) v n xs hown ⟨b, off, none⟩ m cap vs (by omega) (fun j u hu => by rw [addr_add]; exact hcell j u hu) h1 (by omega) (by rw [← hl]; exact hbytes) hbase
      exact ⟨v', w', hrun, by rw [hl]; exact ho1, ho2⟩
  obtain ⟨v', w', hrun, ho1, ho2⟩ := run
  have hwd : Region.wanted o (yielded ops a.tmps) = true := by simp [Region.wanted, hgd]
  rw [if_pos hwd]
  unfold Oper.wp execOp
  simp only [ho, resolve, invoke, builtin, Sem.run_bind, Sem.run_pure, Result.andThen_ok, List.map_toArray, List.map_cons, List.map_nil, hs, hx, hrun]
  have hv' : ∃ p m cap, v' = .slice p m cap := by
    rcases ho1.2 with ⟨e, _⟩ | ⟨g, cap, cur, e, _⟩ <;> exact ⟨_, _, _, e⟩
  obtain ⟨p, m', cap', rfl⟩ := hv'
  exact h p m' cap' w' ho1 ho2 ((Below.refl _ _).grown ho2 hbase fun k hk => (hown.lt k hk).1)

theorem wp_appendSl {P : Program} {w : World} {o : Oper} {a : Act} {K : Act → World → Prop} {Q : Exit → Act → World → Prop} (s x : Operand) (t u : TypeId)
    (ho : o.op = .call { callee := .builtin .append, args := #[s, x], argTypes := #[t, u] })
    (base : Nat) (e e2 : TypeId) (z : Value) (bytes : Nat) (ht : P.underlying t = some (.slice e)) (hu : P.underlying u = some (.slice e2)) (hi : (P.info? e).map (fun i => (i.zero, i.size, i.bytes)) = some (some z, 1, bytes)) (hz : z.cells = #[z])
    (v : Value) (n : Nat) (xs : List Value) (hs : a.eval s = v) (hown : w.ownsRow base e 1 v n xs)
    (xv : Value) (vs : List Value) (hx : a.eval x = xv) (hsl : Sl w xv vs) (h1 : ∀ u ∈ vs, u.oneCell' = true)
    (h63 : n + vs.length ≤ maxLen) (hbytes : (n + vs.length) * bytes ≤ 140737488355328) (hbase : base ≤ w.heap.size)
    (h : ∀ p m cap w', w'.ownsRow base e 1 (.slice p m cap) (n + vs.length) (xs ++ vs) → w.grownBy w' v.ownBlock → Below base w w' → K (a.put o.dst (.slice p m cap)) w') :
    Oper.wp P o a w K Q := by
  obtain ⟨i, h2, h3, h4, h5⟩ := info_parts hi
  obtain ⟨ad, m, cap, rfl, hl, hmc, hcm, hr⟩ := hsl
  have run : ∃ v' w', (Builtin.append_ #[t, u] o.type #[v, .slice ad m cap]).run P w = .ok v' w' ∧ w'.ownsRow base e 1 v' (n + vs.length) (xs ++ vs) ∧ w.grownBy w' v.ownBlock := by
    have hv : ∃ b0 n0 c0, v = .slice b0 n0 c0 := by
      rcases hown.2 with ⟨rfl, _⟩ | ⟨g, cap', cur, rfl, _⟩
      · exact ⟨_, _, _, rfl⟩
      · exact ⟨_, _, _, rfl⟩
    have ety : (Builtin.append_ #[t, u] o.type #[v, .slice ad m cap]).run P w = (Builtin.append_ #[t, t] o.type #[v, .slice ad m cap]).run P w := by
      obtain ⟨b0, n0, c0, rfl⟩ := hv
      exact append_types w t u o.type e e2 ht hu b0 n0 c0 _
    rw [ety]
    by_cases hm : m = 0
    · subst hm
      obtain rfl : vs = [] := List.eq_nil_of_length_eq_zero hl
      exact ⟨v, w, run_append_empty w base t o.type e i ht h2 h4 v n xs hown ad cap, by simpa using hown, ⟨rfl, rfl, rfl, Nat.le_refl _, fun _ _ _ => rfl⟩⟩
    · obtain ⟨b, off, rfl, hcell⟩ := hr (by omega)
      obtain ⟨v', w', hrun, ho1, ho2, _⟩ := run_append_own (P := P) w base t o.type e i z 1 bytes ht h2 h3 h4 h5 (by rw [hz]; rfl) (by omega) v n xs hown ⟨b, off, none⟩ m cap vs (by omega) (fun j u hu => by rw [addr_add]; exact hcell j u hu) h1 (by omega) (by rw [← hl]; exact hbytes) hbase
      exact ⟨v', w', hrun, by rw [hl]; exact ho1, ho2⟩
  obtain ⟨v', w', hrun, ho1, ho2⟩ := run
  unfold Oper.wp execOp
  simp only [ho, resolve, invoke, builtin, Sem.run_bind, Sem.run_pure, Result.andThen_ok, List.map_toArray, List.map_cons, List.map_nil, hs, hx, hrun]
  have hv' : ∃ p m cap, v' = .slice p m cap := by
    rcases ho1.2 with ⟨e, _⟩ | ⟨g, cap, cur, e, _⟩ <;> exact ⟨_, _, _, e⟩
  obtain ⟨p, m', cap', rfl⟩ := hv'
  exact h p m' cap' w' ho1 ho2 ((Below.refl _ _).grown ho2 hbase fun k hk => (hown.lt k hk).1)


theorem ownsRow_drewn {w : World} {B : Nat} {e : TypeId} {size : Nat} {v : Value} {n : Nat} {xs : List Value} (h : w.ownsRow B e size v n xs) : w.drew.ownsRow B e size v n xs := h
def want (xs ys : List Bool) : List Bool := xs.take (min xs.length ys.length) ++ ys.drop (min xs.length ys.length)
theorem want_len (xs ys : List Bool) : (want xs ys).length = ys.length := by unfold want; rw [List.length_append, List.length_take, List.length_drop]; omega
def MidCut (xs ys : List Bool) (w6 : World) (s : Value) (wx : World) : Prop := ∃ b, s = .bool b ∧ wx = w6 ∧ (b = false → ys.length ≤ xs.length ∨ (ys.length % 64 = 0 ∧ xs.length % 64 = 0))
def MinCut (xs ys : List Bool) (w6 : World) (s : Value) (wx : World) : Prop := ∃ N : Nat, s = .int .u64 (N : Int) ∧ min xs.length ys.length = N ∧ wx = w6
def WantCut (w : World) (R : Nat) (cs : List Bool) (v : Value) (wx : World) : Prop :=
  ∃ (p p3 : Option Addr) (m c m3 c3 : Nat), v = .slice p m c ∧ Sl wx (.slice p m c) (bools cs) ∧ wx.cell? ⟨R, 0, none⟩ = some (.int .u64 (cs.length : Int)) ∧ wx.cell? ⟨R, 1, none⟩ = some (.slice p3 m3 c3) ∧
    IsBits wx (.agg #[.int .u64 (cs.length : Int), .slice p3 m3 c3]) cs ∧ Below w.heap.size w wx
end Go.Proofs.Ytbcbkieebelleaa
