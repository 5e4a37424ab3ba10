/- Walk of laws.baTwo, whatever the arrays and the functions handed in. -/
import Derived.Test.YtgifbdjifmoafaaGreatBaAndSp
import Derived.Test.YtgifbdjifmoafaaGreatBaMade2
import Derived.Deep.QuietTactic
import Derived.BigQuiet
import Derived.IntWalk
namespace Go.Proofs.YtgifbdjifmoafaaGreat
set_option linter.unusedVariables false
open Go.RowKit Bam

/-- baMade makes the steps ss and the reference's array of the set S -/
def MadeC (d : Bool) (sz : Int) (v : Value) (on : Nat) (ss : List Stp) (wd : Nat) (S : List Nat) (w : World) : Prop :=
  Calls Tryz.prog 5 #[.bool d, .int .u16 sz, v, .int .i64 (on : Int)] w fun e w' =>
    ∃ (pa : Option Addr) (ca : Nat) (sv : Value), e = .returned (.tuple #[.slice pa ss.length ca, .agg #[.bool d, .int .u64 (wd : Int), sv]]) ∧ w'.ownsRow w.heap.size 33 6 (.slice pa ss.length ca) ss.length (ss.map stpRow).flatten ∧ Us w' sv S ∧ Below w.heap.size w w'
/-- function f lets two reference arrays in, or not -/
def FitsC (f : FuncId) (x y : Bool) (wd1 wd2 : Nat) (S1 S2 : List Nat) (b : Bool) : Prop := ∀ (w : World) (s1 s2 : Value), Us w s1 S1 → Us w s2 S2 →
  Calls Tryz.prog f #[.agg #[.bool x, .int .u64 (wd1 : Int), s1], .agg #[.bool y, .int .u64 (wd2 : Int), s2]] w fun e w' => e = .returned (.bool b) ∧ Below w.heap.size w w'
/-- function f makes the set S3 of two sets -/
def SetsC (f : FuncId) (S1 S2 S3 : List Nat) : Prop := ∀ (w : World) (s1 s2 : Value), Us w s1 S1 → Us w s2 S2 →
  Calls Tryz.prog f #[s1, s2] w fun e w' => ∃ v, e = .returned v ∧ Us w' v S3 ∧ Below w.heap.size w w'

theorem stpRow6 (ss : List Stp) : ∀ r ∈ ss.map stpRow, r.length = 6 := by
  intro r hr
  obtain ⟨s, _, rfl⟩ := List.mem_map.1 hr
  rfl
theorem stpRow_one (ss : List Stp) : ∀ u ∈ (ss.map stpRow).flatten, u.oneCell' = true := by
  intro u hu
  obtain ⟨r, hr, hu⟩ := List.mem_flatten.1 hu
  obtain ⟨s, _, rfl⟩ := List.mem_map.1 hr
  simp [stpRow] at hu
  rcases hu with rfl | rfl | rfl | rfl | rfl | rfl <;> rfl
def tailS (op : Nat) : List Stp := [⟨op, 0, 1, 0, 0, false⟩, ⟨14, 2, 0, 0, 0, false⟩, ⟨10, 2, 0, 0, 0, false⟩, ⟨15, 2, 0, 0, 0, false⟩, ⟨14, 0, 0, 0, 0, false⟩, ⟨14, 1, 0, 0, 0, false⟩]
def tailA (W S1 S2 : List Nat) : List An := [⟨false, 0, []⟩, ⟨false, 0, W⟩, ⟨false, W.length, []⟩, ⟨decide (W.length = 0), 0, []⟩, ⟨false, 0, S1⟩, ⟨false, 0, S2⟩]

def tailV (op : Nat) : Array Value := #[.int .i64 (op : Int), .int .i64 0, .int .i64 1, .int .u64 0, .int .i64 0, .bool false, .int .i64 14, .int .i64 2, .int .i64 0, .int .u64 0, .int .i64 0, .bool false, .int .i64 10, .int .i64 2, .int .i64 0, .int .u64 0, .int .i64 0, .bool false, .int .i64 15, .int .i64 2, .int .i64 0, .int .u64 0, .int .i64 0, .bool false, .int .i64 14, .int .i64 0, .int .i64 0, .int .u64 0, .int .i64 0, .bool false, .int .i64 14, .int .i64 1, .int .i64 0, .int .u64 0, .int .i64 0, .bool false]

theorem made_c (sz : Int) (v : Value) (xs : List Nat) (on : Nat) (w : World) (hv : Sl w v (u64s xs)) (hb : ∀ x ∈ xs, x < 18446744073709551616) (hon : on ≤ 1000) : MadeC false sz v on (madeL on (xs.take 40)) 0 (nums (madeP (xs.take 40) (xs.take 40).length)) w := by
  unfold MadeC
  rw [madeL_len]
  exact made_sp sz v xs on w hv hb hon

def AndLoop (A B : List Nat) (n : Nat) (w : World) (k : Nat) (so idx : Value) (wr : World) : Prop :=
  ∃ (i : Nat) (p : Option Addr) (m cc : Nat), so = .slice p m cc ∧ idx = .int .i64 (i : Int) ∧ i + k = n ∧ wr.ownsRow w.heap.size 25 1 (.slice p m cc) m (u64s (sAnd (A.take i) B)) ∧ Below w.heap.size w wr
theorem sAnd_succ (A B : List Nat) (i : Nat) (h : i < A.length) : sAnd (A.take (i + 1)) B = if sHas B (A.getD i 0) then sAnd (A.take i) B ++ [A.getD i 0] else sAnd (A.take i) B := by
  unfold sAnd
  rw [List.take_succ_eq_append_getElem h, List.filter_append, show A.getD i 0 = A[i] by rw [List.getD_eq_getElem?_getD, List.getElem?_eq_getElem h]; rfl]
  by_cases hb : sHas B A[i] <;> simp [hb]
theorem sAnd_le (A B : List Nat) (i : Nat) : (sAnd (A.take i) B).length ≤ i := by
  unfold sAnd
  exact Nat.le_trans (List.length_filter_le _ _) (by rw [List.length_take]; omega)
end Go.Proofs.YtgifbdjifmoafaaGreat
