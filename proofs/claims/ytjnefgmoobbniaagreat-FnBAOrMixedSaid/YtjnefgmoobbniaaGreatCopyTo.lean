/- copy of any slice onto a part of an own row: one law for the walk, one for a drawn region. No program in sight. -/
import Derived.Test.YtjnefgmoobbniaaGreatCopyIn
namespace Go.Proofs.YtjnefgmoobbniaaGreat
set_option linter.unusedVariables false
open Go.RowKit

theorem copyTo_run {P : Program} {w : World} (dT sT ty : TypeId) (base : Nat) (e : TypeId) (z : Value) (bytes : Nat) (hu : P.underlying dT = some (.slice e)) (hi : (P.info? e).map (fun i => (i.zero, i.size, i.bytes)) = some (some z, 1, bytes))
    (g n cap : Nat) (xs : List Value) (hown : w.ownsRow base e 1 (.slice (some ⟨g, 0, none⟩) n cap) n xs)
    (di : Nat) (vs : List Value) (h1 : ∀ u ∈ vs, u.oneCell' = true) (hdi : di + vs.length ≤ n) (dp sp : Option Addr) (dLen sLen dCap sCap : Nat) (hdl : dLen = n - di) (hsl : sLen = vs.length) (hdp : di < n → dp = some ⟨g, di, none⟩)
    (hsp : 0 < vs.length → ∃ b off, sp = some ⟨b, off, none⟩ ∧ ∀ i u, vs[i]? = some u → w.cell? ⟨b, off + i, none⟩ = some u) :
    ∃ w', (Builtin.copy_ #[dT, sT] ty #[.slice dp dLen dCap, .slice sp sLen sCap]).run P w = .ok (goInt ((vs.length : Nat) : Int)) w' ∧ w'.ownsRow base e 1 (.slice (some ⟨g, 0, none⟩) n cap) n (xs.take di ++ (vs ++ xs.drop (di + vs.length))) ∧ w.grownBy w' (some g) ∧ Below base w w' := by
  subst hdl hsl
  obtain ⟨i, h2, h3, h4, h5⟩ := info_parts hi
  have hsz : (P.info? e).map (·.size) = some 1 := by rw [h2]; simp [h4]
  have hlen := hown.1
  rw [Nat.mul_one] at hlen
  by_cases hm : vs.length = 0
  · refine ⟨w, ?_, ?_, ⟨rfl, rfl, rfl, Nat.le_refl _, fun _ _ _ => rfl⟩, Below.refl _ _⟩
    · rw [hm]; exact run_copy_none (P := P) w dT sT ty e dp sp _ dCap _ sCap hu hsz (Nat.zero_min _)
    · obtain rfl : vs = [] := List.eq_nil_of_length_eq_zero hm
      simpa using hown
  · obtain ⟨b, off, rfl, hcell⟩ := hsp (by omega)
    rw [hdp (by omega)]
    rcases hown.2 with ⟨e0, _⟩ | ⟨g', cap', cur, e0, hbg, hg, hnc, hcmx, hcs, htake⟩
    · simp at e0
    · simp only [Value.slice.injEq, Option.some.injEq, Addr.mk.injEq, and_true, true_and] at e0
      obtain ⟨rfl, rfl⟩ := e0
      rw [Nat.mul_one] at htake
      have hcl : vs.length = min vs.length (n - di) := by omega
      have hget : ∀ j v, vs[j]? = some v → w.cell? ((⟨b, off, none⟩ : Addr).add j) = some v := fun j v hj => by
        rw [addr_add]; exact hcell j v hj
      have hcurl : n ≤ cur.size := by
        have : (List.take n cur.toList).length = xs.length := by rw [htake]
        rw [List.length_take] at this; simp at this; omega
      have hrun := run_copy_row (P := P) w dT sT ty e g di (n - di) dCap ⟨b, off, none⟩ vs.length sCap cur e vs hu hsz hg hcl hget (by omega) (fun v hv => h1 v hv)
      try rw [← hcl] at hrun
      refine ⟨_, hrun, ⟨?_, .inr ⟨g, cap, _, rfl, hbg, setRow_heap w g _ _ e _ hg, hnc, hcmx, ?_, ?_⟩⟩, ⟨rfl, rfl, rfl, by simp [World.setRow], fun k hk hne => setRow_other w g k _ (fun e => hne (by rw [e]))⟩, below_setRow (Below.refl _ _) hbg _⟩
      · rw [Nat.mul_one]; simp only [List.length_append, List.length_take, List.length_drop]; omega
      · rw [List.size_toArray, List.length_append, List.length_append, List.length_take, List.length_drop]; simp only [Array.length_toList]; omega
      · rw [Nat.mul_one]
        rw [List.toList_toArray, List.append_assoc, List.take_append, List.take_append, List.take_take, List.length_take, Array.length_toList, List.take_of_length_le (l := vs) (by omega), ← htake, List.take_take, List.drop_take]
        rw [show min n di = di from by omega, show min di n = di from by omega, show n - min di cur.size - vs.length = n - (di + vs.length) from by omega]

theorem wpList_copyTo {P : Program} {w : World} {ops : Array Oper} {rest : List Oper} {o : Oper} {a : Act} {Q : Exit → Act → World → Prop} (hgd : o.guard = none) (d s : Operand) (dT sT : TypeId)
    (ho : o.op = .call { callee := .builtin .copy, args := #[d, s], argTypes := #[dT, sT] }) (base : Nat) (e : TypeId) (z : Value) (bytes : Nat) (hu : P.underlying dT = some (.slice e)) (hi : (P.info? e).map (fun i => (i.zero, i.size, i.bytes)) = some (some z, 1, bytes))
    (g n cap : Nat) (xs : List Value) (hown : w.ownsRow base e 1 (.slice (some ⟨g, 0, none⟩) n cap) n xs)
    (di : Nat) (vs : List Value) (h1 : ∀ u ∈ vs, u.oneCell' = true) (hdi : di + vs.length ≤ n) (dp sp : Option Addr) (dLen sLen dCap sCap : Nat) (hd : a.eval d = .slice dp dLen dCap) (hs : a.eval s = .slice sp sLen sCap) (hdl : dLen = n - di) (hsl : sLen = vs.length) (hdp : di < n → dp = some ⟨g, di, none⟩)
    (hsp : 0 < vs.length → ∃ b off, sp = some ⟨b, off, none⟩ ∧ ∀ i u, vs[i]? = some u → w.cell? ⟨b, off + i, none⟩ = some u)
    (h : ∀ w', w'.ownsRow base e 1 (.slice (some ⟨g, 0, none⟩) n cap) n (xs.take di ++ (vs ++ xs.drop (di + vs.length))) → w.grownBy w' (some g) → Below base w w' → wpList P ops Q rest (a.put o.dst (goInt ((vs.length : Nat) : Int))) w') :
    wpList P ops Q (o :: rest) a w := by
  obtain ⟨w', hrun, k1, k2, k3⟩ := copyTo_run (P := P) (w := w) dT sT o.type base e z bytes hu hi g n cap xs hown di vs h1 hdi dp sp dLen sLen dCap sCap hdl hsl hdp hsp
  refine wpList_plain hgd fun K hK => ?_
  unfold Oper.wp
  simp [execOp, ho, resolve, invoke, builtin, hd, hs, hrun, Result.andThen]
  exact hK _ _ (h _ k1 k2 k3)

theorem step_copyTo {P : Program} {w : World} {ops : Array Oper} {o : Oper} {a : Act} {K : Act → World → Prop} {Q : Exit → Act → World → Prop} {E : Prop} (hgd : o.guard = none) (d s : Operand) (dT sT : TypeId)
    (ho : o.op = .call { callee := .builtin .copy, args := #[d, s], argTypes := #[dT, sT] }) (base : Nat) (e : TypeId) (z : Value) (bytes : Nat) (hu : P.underlying dT = some (.slice e)) (hi : (P.info? e).map (fun i => (i.zero, i.size, i.bytes)) = some (some z, 1, bytes))
    (g n cap : Nat) (xs : List Value) (hown : w.ownsRow base e 1 (.slice (some ⟨g, 0, none⟩) n cap) n xs)
    (di : Nat) (vs : List Value) (h1 : ∀ u ∈ vs, u.oneCell' = true) (hdi : di + vs.length ≤ n) (dp sp : Option Addr) (dLen sLen dCap sCap : Nat) (hd : a.eval d = .slice dp dLen dCap) (hs : a.eval s = .slice sp sLen sCap) (hdl : dLen = n - di) (hsl : sLen = vs.length) (hdp : di < n → dp = some ⟨g, di, none⟩)
    (hsp : 0 < vs.length → ∃ b off, sp = some ⟨b, off, none⟩ ∧ ∀ i u, vs[i]? = some u → w.cell? ⟨b, off + i, none⟩ = some u)
    (h : ∀ w', w'.ownsRow base e 1 (.slice (some ⟨g, 0, none⟩) n cap) n (xs.take di ++ (vs ++ xs.drop (di + vs.length))) → w.grownBy w' (some g) → Below base w w' → K (a.put o.dst (goInt ((vs.length : Nat) : Int))) w') :
    if Region.wanted o (yielded ops a.tmps) = true then Oper.wp P o a w K Q else E := by
  obtain ⟨w', hrun, k1, k2, k3⟩ := copyTo_run (P := P) (w := w) dT sT o.type base e z bytes hu hi g n cap xs hown di vs h1 hdi dp sp dLen sLen dCap sCap hdl hsl hdp hsp
  have hw : Region.wanted o (yielded ops a.tmps) = true := by simp [Region.wanted, hgd]
  rw [if_pos hw]
  unfold Oper.wp
  simp [execOp, ho, resolve, invoke, builtin, hd, hs, hrun, Result.andThen]
  exact h _ k1 k2 k3
end Go.Proofs.YtjnefgmoobbniaaGreat
