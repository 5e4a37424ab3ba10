/- Sets of integers as lists without repeats, and as maps with interface keys. -/
import Derived.Test.YtdmkijdokmnicaaDoorProg
import Derived.Test.YtdmkijdokmnicaaDoorVMap
import Derived.Test.YtdmkijdokmnicaaDoorSl
import Derived.WalkKit
import Derived.Outline
import Derived.Deep.LoopGhost
namespace Go.Proofs.YtdmkijdokmnicaaDoor
set_option linter.unusedVariables false
open Go.RowKit

namespace Zs
/-- the list with the items that it lacks -/
def addAll (l items : List Int) : List Int := items.foldl (fun l a => if a ∈ l then l else l ++ [a]) l
/-- the list without the items -/
def remAll (l items : List Int) : List Int := items.foldl List.erase l
theorem add_snoc (l items : List Int) (a : Int) : addAll l (items ++ [a]) = if a ∈ addAll l items then addAll l items else addAll l items ++ [a] := by
  unfold addAll; rw [List.foldl_append]; rfl
theorem rem_snoc (l items : List Int) (a : Int) : remAll l (items ++ [a]) = (remAll l items).erase a := by
  unfold remAll; rw [List.foldl_append]; rfl
theorem nodup_add (items : List Int) : ∀ l : List Int, l.Nodup → (addAll l items).Nodup := by
  induction items with
  | nil => intro l h; exact h
  | cons a r ih =>
    intro l h
    show (addAll (if a ∈ l then l else l ++ [a]) r).Nodup
    apply ih
    split
    · exact h
    · rename_i hn
      rw [List.nodup_append]
      refine ⟨h, by simp, fun x hx y hy => ?_⟩
      simp only [List.mem_singleton] at hy
      subst hy
      intro e
      subst e
      exact hn hx
theorem mem_add (x : Int) (items : List Int) : ∀ l : List Int, x ∈ addAll l items ↔ x ∈ l ∨ x ∈ items := by
  induction items with
  | nil => intro l; simp [addAll]
  | cons a r ih =>
    intro l
    show x ∈ addAll (if a ∈ l then l else l ++ [a]) r ↔ _
    rw [ih]
    split
    · rename_i ha
      simp only [List.mem_cons]
      constructor
      · rintro (h | h)
        · exact .inl h
        · exact .inr (.inr h)
      · rintro (h | h | h)
        · exact .inl h
        · subst h; exact .inl ha
        · exact .inr h
    · simp only [List.mem_append, List.mem_cons, List.not_mem_nil, or_false]
      exact or_assoc
theorem nodup_rem (items : List Int) : ∀ l : List Int, l.Nodup → (remAll l items).Nodup := by
  induction items with
  | nil => intro l h; exact h
  | cons a r ih => intro l h; exact ih _ (h.erase a)
theorem mem_rem (x : Int) (items : List Int) : ∀ l : List Int, l.Nodup → (x ∈ remAll l items ↔ x ∈ l ∧ x ∉ items) := by
  induction items with
  | nil => intro l _; simp [remAll]
  | cons a r ih =>
    intro l h
    show x ∈ remAll (l.erase a) r ↔ _
    rw [ih _ (h.erase a), h.mem_erase_iff]
    simp only [List.mem_cons, not_or]
    constructor
    · rintro ⟨⟨h1, h2⟩, h3⟩; exact ⟨h2, h1, h3⟩
    · rintro ⟨h2, h1, h3⟩; exact ⟨⟨h1, h2⟩, h3⟩
theorem len_add (items : List Int) : ∀ l : List Int, (addAll l items).length ≤ l.length + items.length := by
  induction items with
  | nil => intro l; simp [addAll]
  | cons a r ih =>
    intro l
    show (addAll (if a ∈ l then l else l ++ [a]) r).length ≤ _
    refine Nat.le_trans (ih _) ?_
    split <;> simp <;> omega
theorem len_rem (items : List Int) : ∀ l : List Int, (remAll l items).length ≤ l.length := by
  induction items with
  | nil => intro l; simp [remAll]
  | cons a r ih =>
    intro l
    show (remAll (l.erase a) r).length ≤ _
    exact Nat.le_trans (ih _) (List.length_erase_le)
/-- two lists without repeats that have the same members are as long as each other -/
theorem len_same {l k : List Int} (hl : l.Nodup) (hk : k.Nodup) (h : ∀ x, x ∈ l ↔ x ∈ k) : l.length = k.length := by
  have h1 : l.length ≤ k.length := hl.length_le_of_subset (fun x hx => (h x).1 hx)
  have h2 : k.length ≤ l.length := hk.length_le_of_subset (fun x hx => (h x).2 hx)
  omega
end Zs

/-- the cells of a list of integers, and of these as interface values -/
def i64s (l : List Int) : List Value := l.map fun n => Value.int .i64 n
def ifs (l : List Int) : List Value := l.map fun n => Value.iface 3 (.int .i64 n)
theorem i64s_len (l : List Int) : (i64s l).length = l.length := by simp [i64s]
theorem ifs_len (l : List Int) : (ifs l).length = l.length := by simp [ifs]
theorem i64s_at (l : List Int) (i : Nat) (h : i < l.length) : (i64s l)[i]? = some (.int .i64 (l.getD i 0)) := by
  simp [i64s, h]
theorem ifs_at (l : List Int) (i : Nat) (h : i < l.length) : (ifs l)[i]? = some (.iface 3 (.int .i64 (l.getD i 0))) := by
  simp [ifs, h]
theorem i64s_app (l k : List Int) : i64s (l ++ k) = i64s l ++ i64s k := by simp [i64s]
theorem ifs_app (l k : List Int) : ifs (l ++ k) = ifs l ++ ifs k := by simp [ifs]
theorem take_getD (l : List Int) (i : Nat) (h : i < l.length) : l.take (i + 1) = l.take i ++ [l.getD i 0] := by
  rw [List.take_succ_eq_append_getElem h]; simp [h]
theorem ifs_cells (l : List Int) : ∀ u ∈ ifs l, u.oneCell' = true := by
  intro u hu
  obtain ⟨n, _, rfl⟩ := List.mem_map.1 hu
  rfl
theorem info_if : (Tryd.prog.info? 20).map (fun i => (i.zero, i.size, i.bytes)) = some (some .nilIface, 1, 16) := by kernel_rfl
theorem info_int : (Tryd.prog.info? 3).map (fun i => (i.zero, i.size, i.bytes)) = some (some (.int .i64 0), 1, 8) := by kernel_rfl

/-- keys of a set: interface values that hold integers -/
def ik (n : Int) : Value := .iface 3 (.int .i64 n)
theorem KIF : KeyFn Tryd.prog 20 ik := by
  have h : (Tryd.prog.info? 3).map (fun i => i.comparable) = some true := by kernel_rfl
  cases hi : Tryd.prog.info? 3 with
  | none => rw [hi] at h; cases h
  | some i =>
    rw [hi] at h
    exact KeyFn.iface Tryd.underlying20 Tryd.underlying3 hi (by simpa using h)

/-- a set as a map's entries -/
def setl (l : List Int) : List (Int × Value) := l.map fun n => (n, .agg #[])
theorem setl_len (l : List Int) : (setl l).length = l.length := by simp [setl]
theorem setl_keys (l : List Int) : Vm.keys (setl l) = l := by simp [Vm.keys, setl, Function.comp_def]
theorem setl_get (a : Int) (l : List Int) : Vm.get a (setl l) = if a ∈ l then some (.agg #[]) else none := by
  induction l with
  | nil => rfl
  | cons b r ih =>
    simp only [setl, List.map_cons, Vm.get, List.mem_cons]
    by_cases h : b = a
    · subst h; simp
    · have h2 : ¬ a = b := fun e => h e.symm
      simp only [h, h2, if_false, false_or]
      exact ih
theorem setl_put (a : Int) (l : List Int) : Vm.put a (.agg #[]) (setl l) = setl (if a ∈ l then l else l ++ [a]) := by
  induction l with
  | nil => rfl
  | cons b r ih =>
    simp only [setl, List.map_cons, Vm.put, List.mem_cons]
    by_cases h : b = a
    · subst h; simp
    · have h2 : ¬ a = b := fun e => h e.symm
      simp only [h, h2, if_false, false_or]
      simp only [setl] at ih
      rw [ih]
      split <;> simp
theorem setl_del (a : Int) (l : List Int) : Vm.del a (setl l) = setl (l.erase a) := by
  induction l with
  | nil => rfl
  | cons b r ih =>
    simp only [setl, List.map_cons, Vm.del, List.erase_cons]
    by_cases h : b = a
    · subst h; simp
    · have h3 : ¬ (b == a) = true := by simpa using h
      simp only [h, h3, if_false]
      simp only [setl] at ih
      rw [ih]
      simp
end Go.Proofs.YtdmkijdokmnicaaDoor
