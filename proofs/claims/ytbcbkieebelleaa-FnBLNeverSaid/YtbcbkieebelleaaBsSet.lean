/- Walks of BitSet's Set, Flip, Test, Len where nothing grows; set64 and said64. -/
import Derived.Test.YtbcbkieebelleaaBsNew
import Derived.StillTailTactics
namespace Go.Proofs.Ytbcbkieebelleaa
set_option linter.unusedVariables false
open Go.RowKit

theorem and63 (i : Nat) : i &&& 63 = i % 64 := Nat.and_two_pow_sub_one_eq_mod i 6

set_option maxHeartbeats 400000 in
theorem windex_any (i : Nat) (w : World) (hi : i < 18446744073709551616) :
    Calls Try.prog 77 #[.int .u64 (i : Int)] w fun e w' => e = .returned (.int .u64 ((i % 64 : Nat) : Int)) ∧ w = w' := by
  have h := u64_and_nat i 63 hi (by omega)
  rw [and63] at h
  have h2 : bits .and .u64 (i : Int) 63 = ((i % 64 : Nat) : Int) := h
  have H2 := Lib.hid h2
  clear h h2 hi
  go_enter Try.func77, Try.ntmps77
  go_wp2
  go_ret
  exact ⟨ret_int H2.out, rfl⟩

theorem windex_still (i : Nat) (w : World) (hi : i < 18446744073709551616) :
    Calls Try.prog 77 #[.int .u64 (i : Int)] w fun e w' => e = .returned (.int .u64 ((i % 64 : Nat) : Int)) ∧ w' = w :=
  (windex_any i w hi).mono fun _ _ ⟨he, hw⟩ => ⟨he, hw.symm⟩

set_option maxHeartbeats 400000 in
theorem len_any (B : Nat) (p L : Nat) (ws : List Nat) (cap : Nat) (w : World) (hb : Bs B w p L ws cap) :
    Calls Try.prog 58 #[.pointer (some ⟨p, 0, none⟩)] w fun e w' => e = .returned (.int .u64 (L : Int)) ∧ w = w' := by
  obtain ⟨g, h1, h2, h3, h4, h5⟩ := hb
  have c0 : w.cell? ⟨p, 0, none⟩ = some (.int .u64 (L : Int)) := h3.cell 0 rfl
  clear h1 h2 h3 h4 h5
  go_enter Try.func58, Try.ntmps58
  go_wp2
  go_ret
  exact ⟨rfl, rfl⟩

theorem pow_wrap (k : Nat) (hk : k < 64) : IntKind.u64.wrap ((2 : Int) ^ k) = ((2 ^ k : Nat) : Int) := by
  have hp : 2 ^ k < 2 ^ 64 := Nat.pow_lt_pow_right (by omega) hk
  rw [IntKind.wrap_u64]
  have e : (2 : Int) ^ k = ((2 ^ k : Nat) : Int) := by simp
  rw [e]
  generalize 2 ^ k = z at hp
  omega
theorem or_word (X i : Nat) (hX : X < 18446744073709551616) : bits BinOp.or IntKind.u64 (X : Int) (IntKind.u64.wrap (2 ^ (i % 64))) = ((X ||| 2 ^ (i % 64) : Nat) : Int) := by
  have hp : 2 ^ (i % 64) < 2 ^ 64 := Nat.pow_lt_pow_right (by omega) (by omega)
  rw [pow_wrap _ (by omega), u64_or_nat X _ hX (by simpa using hp)]
theorem xor_word (X i : Nat) (hX : X < 18446744073709551616) : bits BinOp.xor IntKind.u64 (X : Int) (IntKind.u64.wrap (2 ^ (i % 64))) = ((X ^^^ 2 ^ (i % 64) : Nat) : Int) := by
  have hp : 2 ^ (i % 64) < 2 ^ 64 := Nat.pow_lt_pow_right (by omega) (by omega)
  rw [pow_wrap _ (by omega), u64_xor_nat X _ hX (by simpa using hp)]
theorem test_word (X i : Nat) (hX : X < 18446744073709551616) : (bits BinOp.and IntKind.u64 (X : Int) (IntKind.u64.wrap (2 ^ (i % 64))) != 0) = X.testBit (i % 64) := by
  have hp : 2 ^ (i % 64) < 2 ^ 64 := Nat.pow_lt_pow_right (by omega) (by omega)
  rw [pow_wrap _ (by omega), u64_and_nat X _ hX (by simpa using hp), nat_bit]
  have h2 : X / 2 ^ (i % 64) % 2 = 0 ∨ X / 2 ^ (i % 64) % 2 = 1 := by omega
  have ht := Nat.testBit_eq_decide_div_mod_eq (x := X) (i := i % 64)
  rw [ht]
  have hpos := Nat.two_pow_pos (i % 64)
  rcases h2 with h | h <;> rw [h]
  · simp
  · obtain ⟨q, hq⟩ : ∃ q, 2 ^ (i % 64) = q + 1 := ⟨2 ^ (i % 64) - 1, by omega⟩
    rw [hq]
    simp
    omega
theorem or_lt (X i : Nat) (hX : X < 18446744073709551616) : X ||| 2 ^ (i % 64) < 18446744073709551616 := by
  have hp : 2 ^ (i % 64) < 2 ^ 64 := Nat.pow_lt_pow_right (by omega) (by omega)
  exact Nat.or_lt_two_pow (n := 64) hX hp
theorem xor_lt (X i : Nat) (hX : X < 18446744073709551616) : X ^^^ 2 ^ (i % 64) < 18446744073709551616 := by
  have hp : 2 ^ (i % 64) < 2 ^ 64 := Nat.pow_lt_pow_right (by omega) (by omega)
  exact Nat.xor_lt_two_pow (n := 64) hX hp

theorem u64s_set (ws : List Nat) (q y : Nat) : (u64s ws).set q (.int .u64 (y : Int)) = u64s (ws.set q y) := by simp [u64s, List.map_set]

/-- a store into a word -/
theorem Bs.store {B p L : Nat} {ws : List Nat} {cap : Nat} {w : World} {g : Nat} (h1 : B ≤ p) (h2 : g ≠ p) (h3 : Blk w p 91 #[.int .u64 (L : Int), .slice (some ⟨g, 0, none⟩) ws.length cap])
    (h4 : w.ownsRow B 52 1 (.slice (some ⟨g, 0, none⟩) ws.length cap) ws.length (u64s ws)) (h5 : ∀ x ∈ ws, x < 18446744073709551616) (q y : Nat) (hy : y < 18446744073709551616) :
    Bs B (w.setCell ⟨g, q, none⟩ (.int .u64 (y : Int))) p L (ws.set q y) cap ∧ Below B w (w.setCell ⟨g, q, none⟩ (.int .u64 (y : Int))) := by
  have hg := (h4.lt g rfl).1
  refine ⟨⟨g, h1, h2, ?_, ?_, ?_⟩, (Below.refl _ _).setCell hg _⟩
  · rw [List.length_set]; exact h3.other (Ne.symm h2) _
  · rw [List.length_set, ← u64s_set]; exact (h4.stored q _).1
  · intro x hx
    rcases List.mem_or_eq_of_mem_set hx with h | h
    · exact h5 x h
    · rw [h]; exact hy
theorem Bs.drewN {B p L : Nat} {ws : List Nat} {cap : Nat} {w : World} (h : Bs B w p L ws cap) (n : Nat) : Bs B (w.drewN n) p L ws cap := by
  obtain ⟨g, h1, h2, h3, h4, h5⟩ := h
  exact ⟨g, h1, h2, h3, h4, h5⟩
theorem Bs.weaken {B B' p L : Nat} {ws : List Nat} {cap : Nat} {w : World} (h : Bs B w p L ws cap) (hB : B' ≤ B) : Bs B' w p L ws cap := by
  obtain ⟨g, h1, h2, h3, h4, h5⟩ := h
  exact ⟨g, by omega, h2, h3, ownsRow_weaken h4 hB, h5⟩
/-- what is below a later block is kept -/
theorem Bs.below {B p L : Nat} {ws : List Nat} {cap : Nat} {w w' : World} (h : Bs B w p L ws cap) (hb : Below w.heap.size w w') : Bs B w' p L ws cap := by
  obtain ⟨g, h1, h2, h3, h4, h5⟩ := h
  refine ⟨g, h1, h2, h3.below hb h3.lt, ?_, h5⟩
  exact h4.kept (row := none) ⟨hb.os, hb.tape, hb.output, hb.size, fun k hk _ => hb.block k hk⟩ (by simp [Value.ownBlock])


set_option maxRecDepth 100000 in
set_option maxHeartbeats 400000 in
theorem set_in (B : Nat) (p L i : Nat) (ws : List Nat) (cap : Nat) (w : World) (hb : Bs B w p L ws cap) (hi : i < L) (hL : L ≤ 64 * ws.length) (hl : L ≤ 100000) :
    Calls Try.prog 57 #[.pointer (some ⟨p, 0, none⟩), .int .u64 (i : Int)] w fun e w' => e = .returned (.pointer (some ⟨p, 0, none⟩)) ∧ Bs B w' p L (Bsm.orw ws i) cap ∧ Below B w w' := by
  obtain ⟨g, h1, h2, h3, h4, h5⟩ := hb
  have c0 : w.cell? ⟨p, 0, none⟩ = some (.int .u64 (L : Int)) := h3.cell 0 rfl
  have c1 : w.cell? ⟨p, 1, none⟩ = some (.slice (some ⟨g, 0, none⟩) ws.length cap) := h3.cell 1 rfl
  obtain ⟨q, hq⟩ : ∃ q, i / 64 = q := ⟨_, rfl⟩
  have hq2 : q < ws.length := by omega
  have hq3 : (i : Int) / 64 = (q : Int) := by omega
  have c2 := h4.cellAt q (by omega)
  rw [u64s_at ws q hq2] at c2
  have f2 := h4.frozenAt q
  have hil : i < 100000 := by omega
  have hX : ws.getD q 0 < 18446744073709551616 := h5 _ (by simp [hq2])
  have hst := Bs.store h1 h2 h3 h4 h5 q (ws.getD q 0 ||| 2 ^ (i % 64)) (or_lt _ i hX)
  have e1 : Bsm.orw ws i = ws.set q (ws.getD q 0 ||| 2 ^ (i % 64)) := by unfold Bsm.orw Bsm.upd; rw [hq]
  rw [← e1] at hst
  obtain ⟨X, hXX⟩ : ∃ X, ws.getD q 0 = X := ⟨_, rfl⟩
  rw [hXX] at c2 hX hst
  have HW := Lib.hid (or_word X i hX)
  have HST := Lib.hid hst
  clear hq h1 h2 h3 h4 h5 hX hst e1 hXX
  go_enter Try.func57, Try.ntmps57
  go_wp2_with fail
  refine wp_region_still_tail 13 (by kernel_rfl) (by kernel_rfl) ?_
  simp only [List.take_succ_cons, List.take_zero, List.drop_succ_cons, List.drop_zero]
  repeat still_step
  still_call (windex_still i _ (by omega))
  repeat still_step
  refine wpStill_nil ?_
  change wpList _ _ _ _ _ w.drew
  go_wp2_with fail
  go_ret
  refine ⟨rfl, ?_⟩
  rw [HW.out]
  exact ⟨HST.out.1.drewN 1, HST.out.2.drew⟩

set_option maxRecDepth 100000 in
set_option maxHeartbeats 400000 in
theorem test_any (B : Nat) (p L i : Nat) (ws : List Nat) (cap : Nat) (w : World) (hb : Bs B w p L ws cap) (hL : L ≤ 64 * ws.length) (hl : L ≤ 100000) (hi : i ≤ 100000) :
    Calls Try.prog 59 #[.pointer (some ⟨p, 0, none⟩), .int .u64 (i : Int)] w fun e w' => e = .returned (.bool (decide (i < L) && Bsm.bit ws i)) ∧ ∃ nq, w' = w.drewN nq := by
  obtain ⟨g, h1, h2, h3, h4, h5⟩ := hb
  have c0 : w.cell? ⟨p, 0, none⟩ = some (.int .u64 (L : Int)) := h3.cell 0 rfl
  have c1 : w.cell? ⟨p, 1, none⟩ = some (.slice (some ⟨g, 0, none⟩) ws.length cap) := h3.cell 1 rfl
  by_cases hiL : i < L
  · obtain ⟨q, hq⟩ : ∃ q, i / 64 = q := ⟨_, rfl⟩
    have hq2 : q < ws.length := by omega
    have hq3 : (i : Int) / 64 = (q : Int) := by omega
    have c2 := h4.cellAt q (by omega)
    rw [u64s_at ws q hq2] at c2
    have hX : ws.getD q 0 < 18446744073709551616 := h5 _ (by simp [hq2])
    have hw := test_word _ i hX
    have eb : (decide (i < L) && Bsm.bit ws i) = (ws.getD q 0).testBit (i % 64) := by unfold Bsm.bit; rw [hq]; simp [hiL]
    rw [eb]
    obtain ⟨X, hXX⟩ : ∃ X, ws.getD q 0 = X := ⟨_, rfl⟩
    rw [hXX] at c2 hX hw ⊢
    have HW := Lib.hid hw
    clear hq h1 h2 h3 h4 h5 hX hXX hw eb
    go_enter Try.func59, Try.ntmps59
    go_wp2_with fail
    go_quiet ((go_at_call 77; exact Calls.quiet_of_same (windex_still i _ (by omega))))
    go_wp2_with fail
    go_ret
    exact ⟨ret_bool HW.out, _, rfl⟩
  · have eb : (decide (i < L) && Bsm.bit ws i) = false := by simp [hiL]
    rw [eb]
    clear h1 h2 h3 h4 h5 eb
    go_enter Try.func59, Try.ntmps59
    go_wp2_with fail
    go_ret
    exact ⟨rfl, 0, rfl⟩

end Go.Proofs.Ytbcbkieebelleaa
