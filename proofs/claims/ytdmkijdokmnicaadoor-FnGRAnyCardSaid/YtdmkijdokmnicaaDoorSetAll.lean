/- Walk of package set's All; small laws for drawn regions. -/
import Derived.Test.YtdmkijdokmnicaaDoorSetFlat
import Derived.Deep.RegionHeld3
namespace Go.Proofs.YtdmkijdokmnicaaDoor
set_option linter.unusedVariables false
open Go.RowKit

theorem below_step {B : Nat} {w W w' : World} (h : Below B w W) (hb : Below W.heap.size W w') (hB : B ≤ w.heap.size) : Below B w w' := h.trans (hb.mono (Nat.le_trans hB h.size))

/-- append of one cell to the call's own, as one step of a region that draws -/
theorem step_append1 {P : Program} {w : World} {ops : Array Oper} {o : Oper} {a : Act} {K : Act → World → Prop} {Q : Exit → Act → World → Prop} {E : Prop} (hgd : o.guard = none) (s x : Operand) (t : TypeId)
    (ho : o.op = .call { callee := .builtin .append, args := #[s, x], argTypes := #[t, t] })
    (base : Nat) (e : TypeId) (z : Value) (bytes : Nat) (ht : P.underlying t = some (.slice e)) (hi : (P.info? e).map (fun i => (i.zero, i.size, i.bytes)) = some (some z, 1, bytes)) (hz : z.cells = #[z])
    (v : Value) (n : Nat) (xs : List Value) (hs : a.eval s = v) (hown : w.ownsRow base e 1 v n xs)
    (u : Value) (hx : a.eval x = .slice (some ⟨w.heap.size, 0, none⟩) 1 1) (h1 : u.oneCell' = true)
    (h63 : n + 1 ≤ maxLen) (hbytes : (n + 1) * bytes ≤ 140737488355328) (hbase : base ≤ w.heap.size)
    (h : ∀ g cap w', w'.ownsRow base e 1 (.slice (some ⟨g, 0, none⟩) (n + 1) cap) (n + 1) (xs ++ [u]) → w.grownBy w' v.ownBlock → Below base w w' → K (a.put o.dst (.slice (some ⟨g, 0, none⟩) (n + 1) cap)) w') :
    if Region.wanted o (yielded ops a.tmps) = true then Oper.wp P o a (w.alloc (.cells #[u] e)) K Q else E := by
  obtain ⟨i, h2, h3, h4, h5⟩ := info_parts hi
  have hw : (w.alloc (.cells #[u] e)).heap.size = w.heap.size + 1 := by simp
  obtain ⟨v', w', hrun, hown', hgr, hnil⟩ := run_append_own (P := P) (w.alloc (.cells #[u] e)) base t o.type e i z 1 bytes ht h2 h3 h4 h5 (by rw [hz]; rfl) (by omega) v n xs (hown.alloc _) ⟨w.heap.size, 0, none⟩ 1 1 [u] rfl (cell_one_new _ _ _) (by simpa using h1) h63 hbytes (by omega)
  have hg2 : w.grownBy w' v.ownBlock := ⟨hgr.os, hgr.tape, hgr.output, by have := hgr.size; omega, fun k hk hne => (hgr.block k (by omega) hne).trans (Below.heap_alloc w _ k hk)⟩
  have hv' : ∃ g cap, v' = .slice (some ⟨g, 0, none⟩) (n + 1) cap := by
    rcases hown'.2 with ⟨e, _⟩ | ⟨g, cap, cur, e, _⟩
    · have := (hnil.1 e).2; omega
    · exact ⟨g, cap, e⟩
  obtain ⟨g, cap, rfl⟩ := hv'
  have hwd : Region.wanted o (yielded ops a.tmps) = true := by simp [Region.wanted, hgd]
  rw [if_pos hwd]
  unfold Oper.wp execOp
  simp only [ho, resolve, invoke, builtin, Sem.run_bind, Sem.run_pure, Result.andThen_ok, List.map_toArray, List.map_cons, List.map_nil, hs, hx, hrun]
  exact h g cap w' hown' hg2 ((Below.refl _ _).grown hg2 hbase fun k hk => (hown.lt k hk).1)

theorem row_weaken {w : World} {B B' : Nat} {e : TypeId} {size : Nat} {v : Value} {n : Nat} {xs : List Value} (h : w.ownsRow B e size v n xs) (hB : B' ≤ B) : w.ownsRow B' e size v n xs := by
  refine ⟨h.1, ?_⟩
  rcases h.2 with h0 | ⟨g, cap, cur, rfl, hbg, hg, r⟩
  · exact .inl h0
  · exact .inr ⟨g, cap, cur, rfl, Nat.le_trans hB hbg, hg, r⟩
theorem row_below {w w' : World} {B : Nat} {e : TypeId} {size : Nat} {v : Value} {n : Nat} {xs : List Value} (h : w.ownsRow B e size v n xs) (hb : Below w.heap.size w w') : w'.ownsRow B e size v n xs := by
  refine ⟨h.1, ?_⟩
  have hl := h.lt
  rcases h.2 with h0 | ⟨g, cap, cur, rfl, hbg, hg, r⟩
  · exact .inl h0
  · exact .inr ⟨g, cap, cur, rfl, hbg, (hb.block g (hl g rfl).2).trans hg, r⟩
/-- rows of different types lie in different blocks -/
theorem row_apart {w : World} {B B' : Nat} {e e' : TypeId} {size size' : Nat} {v v' : Value} {n n' : Nat} {xs xs' : List Value} (h : w.ownsRow B e size v n xs) (h' : w.ownsRow B' e' size' v' n' xs') (he : e ≠ e') : v.ownBlock = none ∨ v.ownBlock ≠ v'.ownBlock := by
  cases hv : v.ownBlock with
  | none => exact .inl rfl
  | some g =>
    refine .inr fun e1 => ?_
    obtain ⟨cs, hg⟩ := owns_blk h hv
    obtain ⟨cs', hg'⟩ := owns_blk h' (e1.symm)
    unfold Blk at hg hg'
    rw [hg] at hg'
    injection hg' with hg'
    injection hg' with _ hg'
    exact he hg'
theorem row_not {w : World} {B : Nat} {e : TypeId} {size : Nat} {v : Value} {n : Nat} {xs : List Value} (h : w.ownsRow B e size v n xs) {s : Nat} {t : TypeId} {cs : Array Value} (hs : Blk w s t cs) (he : e ≠ t) : v.ownBlock = none ∨ v.ownBlock ≠ some s := by
  cases hv : v.ownBlock with
  | none => exact .inl rfl
  | some g =>
    refine .inr fun e1 => ?_
    obtain ⟨cs, hg⟩ := owns_blk h hv
    injection e1 with e1
    subst e1
    unfold Blk at hg hs
    rw [hg] at hs
    injection hs with hs
    injection hs with _ hs
    exact he hs
theorem row_notmap {w : World} {B : Nat} {e : TypeId} {size : Nat} {v : Value} {n : Nat} {xs : List Value} (h : w.ownsRow B e size v n xs) {b : Nat} {l : List (Int × Value)} (hs : VMap w ik b l) : ∀ k, v.ownBlock = some k → k ≠ b := by
  intro k hk e1
  obtain ⟨cs, hg⟩ := owns_blk h hk
  obtain ⟨es, clock, hm, _⟩ := hs
  subst e1
  unfold Blk at hg
  rw [hm] at hg
  cases hg

def AllSLoop (n : Nat) (l items : List Int) (w : World) (k : Nat) (idx : Value) (wr : World) : Prop :=
  ∃ i : Nat, idx = .int .i64 (i : Int) ∧ i + k = n ∧ (∀ x, x ∈ items.take i → x ∈ l) ∧ Below w.heap.size w wr

end Go.Proofs.YtdmkijdokmnicaaDoor
