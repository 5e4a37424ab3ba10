/- Runs of the steps that make a sparse array; small facts of laws on bit arrays. -/
import Derived.Test.YtgifbdjifmoafaaGreatBaMade
import Derived.Test.YtgifbdjifmoafaaGreatBaSparseLaw
import Derived.Test.YtgifbdjifmoafaaGreatApRow
namespace Go.Proofs.YtgifbdjifmoafaaGreat
set_option linter.unusedVariables false
open Go.RowKit Bam

/-- rows that were laid at once -/
theorem rw_new {S : Nat} (w : World) (e : TypeId) (cs : Array Value) (rows : List (List Value)) (hS : ∀ r ∈ rows, r.length = S) (hc : cs.toList = rows.flatten) (n : Nat) (hn : rows.length = n) (hm : n ≤ maxLen) : Rw S (w.alloc (.cells cs e)) (.slice (some ⟨w.heap.size, 0, none⟩) n n) rows := by
  refine ⟨_, n, n, rfl, hn, Nat.le_refl _, hm, fun _ => ⟨_, 0, rfl, fun i row hi j u hu => ?_⟩⟩
  have hf := flatten_at S rows hS i j row u hi hu
  rw [Nat.zero_add]
  refine (Blk.new w e cs).cell (i * S + j) ?_
  rw [← Array.getElem?_toList, hc]
  exact hf

theorem sl_two (w : World) (X Y : Nat) (e : TypeId) : Sl (w.alloc (.cells #[.int .u64 (X : Int), .int .u64 (Y : Int)] e)) (.slice (some ⟨w.heap.size, 0, none⟩) 2 2) (u64s [X, Y]) := by
  refine ⟨_, 2, 2, rfl, rfl, Nat.le_refl _, by decide, fun _ => ⟨w.heap.size, 0, rfl, fun t u hu => ?_⟩⟩
  rw [Nat.zero_add]
  refine (Blk.new w e #[.int .u64 (X : Int), .int .u64 (Y : Int)]).cell t ?_
  rw [← Array.getElem?_toList]
  exact hu
theorem sl_twoD (w : World) (X Y : Nat) (e : TypeId) : Sl (w.alloc (.cells #[.int .u64 (X : Int), .int .u64 (Y : Int)] e)).drew (.slice (some ⟨w.heap.size, 0, none⟩) 2 2) (u64s [X, Y]) := (sl_two w X Y e).below rfl (Below.refl _ _).drew
theorem u64wd (n : Nat) (h : n < 18446744073709551616) : IntKind.u64.wrap (n : Int) = (n : Int) := by
  simp only [IntKind.wrap, IntKind.signed, IntKind.bits]
  simp
  omega
def madeA (ms : List Nat) : List An := ⟨false, 0, []⟩ :: ms.map fun _ => ⟨true, 0, []⟩
theorem set_last {α : Type} (l : List α) (x y : α) : (l ++ [x]).set l.length y = l ++ [y] := by
  rw [List.set_append_right _ _ (Nat.le_refl _), Nat.sub_self]; rfl
theorem runs_made (σ : List Arr) (on : Nat) (hσ : σ.length = on) (hon : on ≤ 100) (ms : List Nat) (hn : ms.length ≤ 900) : Runs σ (madeL on ms) (madeA ms) (σ ++ [.sp (madeP ms ms.length)]) := by
  have h : ∀ i, i ≤ ms.length → Runs (σ ++ [.sp []]) ((ms.take i).map (mk on)) ((ms.take i).map fun _ => ⟨true, 0, []⟩) (σ ++ [.sp (madeP ms i)]) := by
    intro i
    induction i with
    | zero => intro _; simpa [madeP] using Runs.nil (σ ++ [.sp []])
    | succ i ih =>
      intro hi
      have h1 := ih (Nat.le_of_succ_le hi)
      have hok := (madeP_ok ms i (Nat.le_of_succ_le hi)).1
      have hs : SOk (madeP ms i) := hok.sok (by omega)
      have h2 := does_set (σ ++ [.sp (madeP ms i)]) (mk on (ms.getD i 0)) (madeP ms i) rfl (by show (σ ++ [.sp (madeP ms i)])[on]? = _; rw [← hσ]; simp) hs (by show ms.getD i 0 % 1152921504606846976 < _; omega)
      have e3 : (σ ++ [Arr.sp (madeP ms i)]).set (mk on (ms.getD i 0)).on (.sp (setB (madeP ms i) (mk on (ms.getD i 0)).k)) = σ ++ [.sp (madeP ms (i + 1))] := by
        rw [madeP_succ ms i hi]
        show (σ ++ [Arr.sp (madeP ms i)]).set on _ = _
        rw [← hσ]
        exact set_last _ _ _
      rw [e3] at h2
      have h3 := h1.append (Runs.one (by simp; omega) h2)
      rw [List.take_succ_eq_append_getElem hi, List.map_append, List.map_append]
      have e4 : ms.getD i 0 = ms[i] := by rw [List.getD_eq_getElem?_getD, List.getElem?_eq_getElem hi]; rfl
      rw [e4] at h3
      exact h3
  have h0 := h ms.length (Nat.le_refl _)
  rw [List.take_length] at h0
  exact (Runs.one (by omega) (does_new σ first2 rfl)).append h0
theorem madeL_len (on : Nat) (ms : List Nat) : (madeL on ms).length = ms.length + 1 := by simp [madeL]
theorem madeA_len (ms : List Nat) : (madeA ms).length = ms.length + 1 := by simp [madeA]

end Go.Proofs.YtgifbdjifmoafaaGreat
