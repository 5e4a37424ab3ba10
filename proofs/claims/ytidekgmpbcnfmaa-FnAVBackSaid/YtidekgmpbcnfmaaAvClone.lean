/- The walk of slices.Clone at the AVL laws' entries. -/
import Derived.Test.YtidekgmpbcnfmaaAvKeys
namespace Go.Proofs.Ytidekgmpbcnfmaa
set_option linter.unusedVariables false
open Go.RowKit Avm

theorem aes_one (l : Lst) : ∀ u ∈ (aes l).flatten, u.oneCell' = true := by
  intro u hu
  obtain ⟨r, hr, hu⟩ := List.mem_flatten.1 hu
  obtain ⟨x, -, rfl⟩ := List.mem_map.1 hr
  simp only [List.mem_cons, List.not_mem_nil, or_false] at hu
  rcases hu with rfl | rfl <;> rfl
set_option maxHeartbeats 2000000 in
theorem avclone_any (q : Option Addr) (n c : Nat) (l : Lst) (w : World) (hv : Rw 2 w (.slice q n c) (aes l)) (hn : l.length ≤ 1000) :
    Calls Try.prog 6 #[.slice q n c] w fun e w' => ∃ q' c', e = .returned (.slice q' l.length c') ∧ w'.ownsRow w.heap.size 25 2 (.slice q' l.length c') l.length (aes l).flatten ∧ Below w.heap.size w w' := by
  have q22 : ∀ (w : World) (a : Option Addr) (n c n' c' : Nat), (binOp .eql 22 (.slice a n c) (.slice none n' c')).run Try.prog w = .ok (.bool a.isNone) w := fun w a n c n' c' => Lib.run_eql_slice_nil w _ _ a n c n' c' Try.underlying22
  cases q with
  | none =>
    have hl : l = [] := by
      obtain ⟨a, m, cap, e, h1, h2, h3, h4⟩ := hv
      rw [aes_len] at h1
      injection e with e1 e2 e3
      subst e1 e2 e3
      cases l with
      | nil => rfl
      | cons x l =>
        obtain ⟨b, off, e, _⟩ := h4 (by rw [← h1]; simp)
        cases e
    subst hl
    go_enter Try.func6, Try.ntmps6
    go_wp2_with fail
    go_ret
    exact ⟨none, 0, rfl, World.ownsRow_nil _ _ _ _, Below.refl _ _⟩
  | some p =>
    have HV := Lib.hid hv
    have hself : w.heap.size ≤ w.heap.size := Nat.le_refl _
    clear hv
    go_enter Try.func6, Try.ntmps6
    go_wp2_with (at_builtin; refine wpList_apRw rfl _ _ 22 rfl w.heap.size 2 25 (.agg #[.int .i64 0, .int .i64 0]) 16 Try.underlying22 info_ave rfl (by decide) (.slice (some ⟨w.heap.size, 0, none⟩) 0 0) 0 [] rfl (World.ownsRow_made w #[] 0 hself (Nat.zero_le _) rfl) (.slice (some p) n c) (aes l) rfl (Rw.alloc' HV.out _) (aes_two l) (aes_one l) (by rw [aes_len]; unfold maxLen; omega) (by rw [aes_len]; omega) (by rw [World.size_alloc]; omega) ?_; intro p6 m6 c6 w6 hown6 hg6 hb6; have HO6 := Lib.hid hown6; have HB6 := Lib.hid hb6; clear hown6 hg6 hb6)
    go_ret
    have ho := HO6.out
    rw [aes_len, List.nil_append, Nat.zero_add] at ho
    have hm : m6 = l.length := own_nK ho
    subst hm
    exact ⟨p6, c6, rfl, ho, ((Below.refl w.heap.size w).alloc hself _).trans HB6.out⟩
end Go.Proofs.Ytidekgmpbcnfmaa
