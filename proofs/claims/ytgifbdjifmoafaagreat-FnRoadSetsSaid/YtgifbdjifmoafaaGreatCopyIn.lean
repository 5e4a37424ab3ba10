/- copy of a part of an own row onto another part of the same row: one law for the walk, one for a drawn region. No program in sight. -/
import Derived.Test.YtgifbdjifmoafaaGreatSl
import Derived.Laws.CopyOwn
import Derived.Deep.RegionLaw
namespace Go.Proofs.YtgifbdjifmoafaaGreat
set_option linter.unusedVariables false
open Go.RowKit

/-- the row behind copy(x[di:], x[si:]) -/
def moved {α : Type} (xs : List α) (di si : Nat) : List α := xs.take di ++ ((xs.drop si).take (xs.length - di) ++ xs.drop (di + ((xs.drop si).take (xs.length - di)).length))

theorem moved_len {α : Type} (xs : List α) (di si : Nat) (h1 : di ≤ xs.length) : (moved xs di si).length = xs.length := by
  unfold moved; simp only [List.length_append, List.length_take, List.length_drop]; omega

theorem copyIn_run {P : Program} {w : World} (dT sT ty : TypeId) (base : Nat) (e : TypeId) (z : Value) (bytes : Nat) (hu : P.underlying dT = some (.slice e)) (hi : (P.info? e).map (fun i => (i.zero, i.size, i.bytes)) = some (some z, 1, bytes))
    (g n cap : Nat) (xs : List Value) (hown : w.ownsRow base e 1 (.slice (some ⟨g, 0, none⟩) n cap) n xs) (h1 : ∀ u ∈ xs, u.oneCell' = true)
    (di si : Nat) (hdi : di ≤ n) (hsi : si ≤ n) (dp sp : Option Addr) (dLen sLen dCap sCap : Nat) (hdl : dLen = n - di) (hsl : sLen = n - si) (hdp : di < n → dp = some ⟨g, di, none⟩) (hsp : si < n → sp = some ⟨g, si, none⟩) :
    ∃ w', (Builtin.copy_ #[dT, sT] ty #[.slice dp dLen dCap, .slice sp sLen sCap]).run P w = .ok (goInt ((min (n - si) (n - di) : Nat) : Int)) w' ∧ w'.ownsRow base e 1 (.slice (some ⟨g, 0, none⟩) n cap) n (moved xs di si) ∧ w.grownBy w' (some g) ∧ Below base w w' := by
  subst hdl hsl
  obtain ⟨i, h2, h3, h4, h5⟩ := info_parts hi
  have hsz : (P.info? e).map (·.size) = some 1 := by rw [h2]; simp [h4]
  have hlen := hown.1
  rw [Nat.mul_one] at hlen
  by_cases hm : min (n - si) (n - di) = 0
  · refine ⟨w, ?_, ?_, ⟨rfl, rfl, rfl, Nat.le_refl _, fun _ _ _ => rfl⟩, Below.refl _ _⟩
    · rw [hm]; exact run_copy_none (P := P) w dT sT ty e dp sp _ dCap _ sCap hu hsz hm
    · have e0 : (xs.drop si).take (xs.length - di) = [] := by apply List.eq_nil_of_length_eq_zero; rw [List.length_take, List.length_drop]; omega
      have e1 : moved xs di si = xs := by
        unfold moved; rw [e0]; simp
      rw [e1]; exact hown
  · rw [hdp (by omega), hsp (by omega)]
    rcases hown.2 with ⟨e0, _⟩ | ⟨g', cap', cur, e0, hbg, hg, hnc, hcmx, hcs, htake⟩
    · simp at e0
    · simp only [Value.slice.injEq, Option.some.injEq, Addr.mk.injEq, and_true, true_and] at e0
      obtain ⟨rfl, rfl⟩ := e0
      rw [Nat.mul_one] at htake
      obtain ⟨cs, hcse⟩ : ∃ cs, cs = (xs.drop si).take (xs.length - di) := ⟨_, rfl⟩
      have hcl : cs.length = min (n - si) (n - di) := by rw [hcse, List.length_take, List.length_drop]; omega
      have hget : ∀ j v, cs[j]? = some v → w.cell? ((⟨g, si, none⟩ : Addr).add j) = some v := fun j v hj => by
        have hj2 : j < cs.length := (List.getElem?_eq_some_iff.1 hj).1
        rw [hcse, List.getElem?_take] at hj
        split at hj
        · rw [List.getElem?_drop] at hj
          have := hown.cells (g := g) rfl (si + j) v hj
          rw [addr_add, Nat.zero_add] at this
          rw [addr_add]; exact this
        · cases hj
      have hcurl : n ≤ cur.size := by
        have : (List.take n cur.toList).length = xs.length := by rw [htake]
        rw [List.length_take] at this; simp at this; omega
      have hrun := run_copy_row (P := P) w dT sT ty e g di (n - di) dCap ⟨g, si, none⟩ (n - si) sCap cur e cs hu hsz hg hcl hget (by rw [hcl]; omega) (fun v hv => h1 v (List.mem_of_mem_drop (List.mem_of_mem_take (hcse ▸ hv))))
      rw [hcl] at hrun
      refine ⟨_, hrun, ⟨?_, .inr ⟨g, cap, _, rfl, hbg, setRow_heap w g _ _ e _ hg, hnc, hcmx, ?_, ?_⟩⟩, ⟨rfl, rfl, rfl, by simp [World.setRow], fun k hk hne => setRow_other w g k _ (fun e => hne (by rw [e]))⟩, below_setRow (Below.refl _ _) hbg _⟩
      · rw [Nat.mul_one, moved_len _ _ _ (by omega)]; exact hlen
      · rw [List.size_toArray, List.length_append, List.length_append, List.length_take, List.length_drop]; simp only [Array.length_toList]; omega
      · rw [Nat.mul_one]
        unfold moved
        rw [← hcse, hcl, List.toList_toArray, List.append_assoc, List.take_append, List.take_append, List.take_take, List.length_take, Array.length_toList, List.take_of_length_le (l := cs) (by omega), ← htake, List.take_take, List.drop_take, hcl]
        rw [show min n di = di from by omega, show min di n = di from by omega, show n - min di cur.size - min (n - si) (n - di) = n - (di + min (n - si) (n - di)) from by omega]

theorem wpList_copyIn {P : Program} {w : World} {ops : Array Oper} {rest : List Oper} {o : Oper} {a : Act} {Q : Exit → Act → World → Prop} (hgd : o.guard = none) (d s : Operand) (dT sT : TypeId)
    (ho : o.op = .call { callee := .builtin .copy, args := #[d, s], argTypes := #[dT, sT] }) (base : Nat) (e : TypeId) (z : Value) (bytes : Nat) (hu : P.underlying dT = some (.slice e)) (hi : (P.info? e).map (fun i => (i.zero, i.size, i.bytes)) = some (some z, 1, bytes))
    (g n cap : Nat) (xs : List Value) (hown : w.ownsRow base e 1 (.slice (some ⟨g, 0, none⟩) n cap) n xs) (h1 : ∀ u ∈ xs, u.oneCell' = true)
    (di si : Nat) (hdi : di ≤ n) (hsi : si ≤ n) (dp sp : Option Addr) (dLen sLen dCap sCap : Nat) (hd : a.eval d = .slice dp dLen dCap) (hs : a.eval s = .slice sp sLen sCap) (hdl : dLen = n - di) (hsl : sLen = n - si) (hdp : di < n → dp = some ⟨g, di, none⟩) (hsp : si < n → sp = some ⟨g, si, none⟩)
    (h : ∀ w', w'.ownsRow base e 1 (.slice (some ⟨g, 0, none⟩) n cap) n (moved xs di si) → w.grownBy w' (some g) → Below base w w' → wpList P ops Q rest (a.put o.dst (goInt ((min (n - si) (n - di) : Nat) : Int))) w') :
    wpList P ops Q (o :: rest) a w := by
  obtain ⟨w', hrun, k1, k2, k3⟩ := copyIn_run (P := P) (w := w) dT sT o.type base e z bytes hu hi g n cap xs hown h1 di si hdi hsi dp sp dLen sLen dCap sCap hdl hsl hdp hsp
  refine wpList_plain hgd fun K hK => ?_
  unfold Oper.wp
  simp [execOp, ho, resolve, invoke, builtin, hd, hs, hrun, Result.andThen]
  exact hK _ _ (h _ k1 k2 k3)

theorem step_copyIn {P : Program} {w : World} {ops : Array Oper} {o : Oper} {a : Act} {K : Act → World → Prop} {Q : Exit → Act → World → Prop} {E : Prop} (hgd : o.guard = none) (d s : Operand) (dT sT : TypeId)
    (ho : o.op = .call { callee := .builtin .copy, args := #[d, s], argTypes := #[dT, sT] }) (base : Nat) (e : TypeId) (z : Value) (bytes : Nat) (hu : P.underlying dT = some (.slice e)) (hi : (P.info? e).map (fun i => (i.zero, i.size, i.bytes)) = some (some z, 1, bytes))
    (g n cap : Nat) (xs : List Value) (hown : w.ownsRow base e 1 (.slice (some ⟨g, 0, none⟩) n cap) n xs) (h1 : ∀ u ∈ xs, u.oneCell' = true)
    (di si : Nat) (hdi : di ≤ n) (hsi : si ≤ n) (dp sp : Option Addr) (dLen sLen dCap sCap : Nat) (hd : a.eval d = .slice dp dLen dCap) (hs : a.eval s = .slice sp sLen sCap) (hdl : dLen = n - di) (hsl : sLen = n - si) (hdp : di < n → dp = some ⟨g, di, none⟩) (hsp : si < n → sp = some ⟨g, si, none⟩)
    (h : ∀ w', w'.ownsRow base e 1 (.slice (some ⟨g, 0, none⟩) n cap) n (moved xs di si) → w.grownBy w' (some g) → Below base w w' → K (a.put o.dst (goInt ((min (n - si) (n - di) : Nat) : Int))) w') :
    if Region.wanted o (yielded ops a.tmps) = true then Oper.wp P o a w K Q else E := by
  obtain ⟨w', hrun, k1, k2, k3⟩ := copyIn_run (P := P) (w := w) dT sT o.type base e z bytes hu hi g n cap xs hown h1 di si hdi hsi dp sp dLen sLen dCap sCap hdl hsl hdp hsp
  have hw : Region.wanted o (yielded ops a.tmps) = true := by simp [Region.wanted, hgd]
  rw [if_pos hw]
  unfold Oper.wp
  simp [execOp, ho, resolve, invoke, builtin, hd, hs, hrun, Result.andThen]
  exact h _ k1 k2 k3

/-- copy(x[i+1:], x[i:]); x[i] = u, in a row that was lengthened by one: u is put in at i -/
theorem moved_ins {α : Type} (xs : List α) (y u : α) (i : Nat) (hi : i < xs.length) : (moved (xs ++ [y]) (i + 1) i).set i u = xs.take i ++ u :: xs.drop i := by
  apply List.ext_getElem?
  intro j
  unfold moved
  have hl : ((List.drop i (xs ++ [y])).take ((xs ++ [y]).length - (i + 1))).length = xs.length - i := by simp [List.length_take, List.length_drop]; omega
  rw [hl]
  have hz : List.drop (i + 1 + (xs.length - i)) (xs ++ [y]) = [] := by apply List.drop_eq_nil_of_le; simp; omega
  rw [hz, List.append_nil]
  have e1 : List.take (i + 1) (xs ++ [y]) = xs.take (i + 1) := by rw [List.take_append_of_le_length (by omega)]
  have e2 : (List.drop i (xs ++ [y])).take ((xs ++ [y]).length - (i + 1)) = xs.drop i := by
    rw [List.drop_append_of_le_length (by omega), List.take_append_of_le_length (by simp), List.take_of_length_le (by simp)]
  rw [e1, e2]
  have e3 : xs.take (i + 1) = xs.take i ++ [xs[i]] := List.take_succ_eq_append_getElem hi
  rw [e3, List.append_assoc, List.set_append_right _ _ (by simp; omega)]
  simp [show i - min i xs.length = 0 from by omega]
/-- copy(x[i:], x[i+1:]), the last element cut off: the one at i is taken out -/
theorem moved_del {α : Type} (xs : List α) (i : Nat) (hi : i < xs.length) : (moved xs i (i + 1)).take (xs.length - 1) = xs.take i ++ xs.drop (i + 1) := by
  unfold moved
  have hl : ((List.drop (i + 1) xs).take (xs.length - i)).length = xs.length - (i + 1) := by simp [List.length_take, List.length_drop]; omega
  have e2 : (List.drop (i + 1) xs).take (xs.length - i) = List.drop (i + 1) xs := List.take_of_length_le (by simp; omega)
  rw [e2, ← List.append_assoc, List.take_append_of_le_length (by simp; omega)]
  exact List.take_of_length_le (by simp; omega)
end Go.Proofs.YtgifbdjifmoafaaGreat
