/- Walks of popcntSlice, popcntAndSlice, popcntXorSlice, wordCount, Count. -/
import Derived.Test.YtbcbkieebelleaaBsCount
import Derived.Test.YtbcbkieebelleaaBsMeet
namespace Go.Proofs.Ytbcbkieebelleaa
set_option linter.unusedVariables false
open Go.RowKit
attribute [local irreducible] Pop.pc Bsm.cnt

/-- a step of a count of words -/
theorem Bsm.cnt_word (zs : List Nat) (c x : Nat) (h : Bsm.cnt (Bsm.bit zs) 0 (64 * c) = x) : Bsm.cnt (Bsm.bit zs) 0 (64 * (c + 1)) = x + Pop.pc 64 (zs.getD c 0) := by
  rw [Nat.mul_add, Bsm.cnt_add, h, Bsm.pc_word zs c, Nat.zero_add]

theorem Bsm.bit_zip (f : Nat → Nat → Nat) (g : Bool → Bool → Bool) (hf : ∀ x y j, (f x y).testBit j = g (x.testBit j) (y.testBit j)) (xs ys : List Nat) (hl : xs.length ≤ ys.length) (j : Nat) (hj : j < 64 * xs.length) :
    Bsm.bit (List.zipWith f xs ys) j = g (Bsm.bit xs j) (Bsm.bit ys j) := by
  unfold Bsm.bit
  rw [← hf]
  congr 1
  have h1 : j / 64 < xs.length := by omega
  have h2 : j / 64 < ys.length := by omega
  simp [List.getD_eq_getElem?_getD, List.getElem?_zipWith, List.getElem?_eq_getElem h1, List.getElem?_eq_getElem h2]

theorem Bsm.zip_getD (f : Nat → Nat → Nat) (xs ys : List Nat) (hl : xs.length ≤ ys.length) (c : Nat) (hc : c < xs.length) :
    (List.zipWith f xs ys).getD c 0 = f (xs.getD c 0) (ys.getD c 0) := by
  have h2 : c < ys.length := by omega
  simp [List.getD_eq_getElem?_getD, List.getElem?_zipWith, List.getElem?_eq_getElem hc, List.getElem?_eq_getElem h2]

theorem Bs.sl {B p L : Nat} {ws : List Nat} {cap : Nat} {w : World} (h : Bs B w p L ws cap) : ∃ g, w.cell? ⟨p, 0, none⟩ = some (.int .u64 (L : Int)) ∧ w.cell? ⟨p, 1, none⟩ = some (.slice (some ⟨g, 0, none⟩) ws.length cap) ∧
    Sl w (.slice (some ⟨g, 0, none⟩) ws.length cap) (u64s ws) ∧ B ≤ g ∧ B ≤ p ∧ g < w.heap.size ∧ p < w.heap.size := by
  obtain ⟨g, h1, h2, h3, h4, h5⟩ := h
  exact ⟨g, h3.cell 0 rfl, h3.cell 1 rfl, Sl.of_owns h4, (h4.lt g rfl).1, h1, (h4.lt g rfl).2, h3.lt⟩

def PopLoop (zs : List Nat) (N : Nat) (w : World) (k : Nat) (r j : Value) (wr : World) : Prop :=
  ∃ c x : Nat, j = .int .i64 (c : Int) ∧ c + k = N ∧ r = .int .u64 (x : Int) ∧ Bsm.cnt (Bsm.bit zs) 0 (64 * c) = x ∧ ∃ m, wr = w.drewN m

theorem Sl.u64_at {w : World} {a : Option Addr} {n cap : Nat} {xs : List Nat} (h : Sl w (.slice a n cap) (u64s xs)) (hn : 0 < n) : ∃ b off, a = some ⟨b, off, none⟩ ∧ ∀ i, i < n → w.cell? ⟨b, off + i, none⟩ = some (.int .u64 (xs.getD i 0 : Nat)) := by
  obtain ⟨a', n', cap', e, hl, hc, hm, hr⟩ := h
  simp only [Value.slice.injEq] at e
  obtain ⟨rfl, rfl, rfl⟩ := e
  obtain ⟨b, off, rfl, h⟩ := hr hn
  rw [u64s_len] at hl
  exact ⟨b, off, rfl, fun i hi => h i _ (u64s_at xs i (by omega))⟩

def Pop4Loop (zs : List Nat) (n : Nat) (w : World) (k : Nat) (r0 r1 r2 r3 j : Value) (wr : World) : Prop :=
  ∃ c x0 x1 x2 x3 : Nat, j = .int .i64 (c : Int) ∧ c ≤ n ∧ c + 4 * k ≤ n ∧ n < c + 4 * k + 4 ∧ r0 = .int .u64 (x0 : Int) ∧ r1 = .int .u64 (x1 : Int) ∧ r2 = .int .u64 (x2 : Int) ∧ r3 = .int .u64 (x3 : Int) ∧
    Bsm.cnt (Bsm.bit zs) 0 (64 * c) = x0 + x1 + x2 + x3 ∧ ∃ m, wr = w.drewN m

set_option maxHeartbeats 400000 in
theorem wordcount_any (B p L : Nat) (ws : List Nat) (cap : Nat) (w : World) (hb : Bs B w p L ws cap) (hL : L ≤ 100000) (n : Nat) (hn : (L + 63) / 64 = n) :
    Calls Try.prog 81 #[.pointer (some ⟨p, 0, none⟩)] w fun e w' => e = .returned (.int .i64 (n : Int)) ∧ w = w' := by
  obtain ⟨g, c0, c1, c2⟩ := hb.cells
  clear hb c2 c1
  have hw1 : IntKind.i64.wrap (L : Int) = (L : Int) := IntWalk.i64_in _ (by omega)
  have hn2 : ((L : Int) + 63) / 64 = (n : Int) := by omega
  have HN := Lib.hid hn
  clear hn
  go_enter Try.func81, Try.ntmps81
  go_wp2_with (go_at_call 85; go_in)
  go_ret
  exact ⟨ret_int (by first | rfl | omega), rfl⟩
end Go.Proofs.Ytbcbkieebelleaa
