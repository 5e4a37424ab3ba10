/- Walks of BitSet's cleanLastWord, ClearAll, SetAll. -/
import Derived.Test.YtbcbkieebelleaaBsExt
namespace Go.Proofs.Ytbcbkieebelleaa
set_option linter.unusedVariables false
open Go.RowKit

set_option maxHeartbeats 400000 in
theorem exact_any (B : Nat) (p L : Nat) (ws : List Nat) (cap : Nat) (w : World) (hb : Bs B w p L ws cap) (hL : L ≤ 100000) :
    Calls Try.prog 78 #[.pointer (some ⟨p, 0, none⟩)] w fun e w' => e = .returned (.bool (decide (L % 64 = 0))) ∧ w = w' := by
  obtain ⟨g, h1, h2, h3, h4, h5⟩ := hb
  have c0 : w.cell? ⟨p, 0, none⟩ = some (.int .u64 (L : Int)) := h3.cell 0 rfl
  clear h1 h2 h3 h4 h5
  have e : decide (L % 64 = 0) = decide (((L % 64 : Nat) : Int) = 0) := by rw [decide_eq_decide]; omega
  rw [e]
  clear e
  go_enter Try.func78, Try.ntmps78
  go_wp2_with fail
  refine (windex_any L _ (by omega)).mono ?_
  rintro e w1 ⟨rfl, rfl⟩
  go_wp2_with fail
  go_ret
  exact ⟨ret_bool (by simp [Bool.beq_eq_decide_eq]), rfl⟩

/-- the bits up to L alone -/
theorem Bsm.low_bit (X k j : Nat) (hk : 0 < k) (hk2 : k < 64) : (X &&& (18446744073709551615 >>> (64 - k))).testBit j = (X.testBit j && decide (j < k)) := by
  have e : (18446744073709551615 : Nat) = 2 ^ 64 - 1 := by rfl
  rw [Nat.testBit_and, Nat.testBit_shiftRight, e, Nat.testBit_two_pow_sub_one]
  congr 1
  rw [decide_eq_decide]
  omega

set_option maxRecDepth 100000 in
set_option maxHeartbeats 1000000 in
theorem clean_any (B : Nat) (p L : Nat) (ws : List Nat) (cap : Nat) (w : World) (hb : Bs B w p L ws cap) (hwl : ws.length = (L + 63) / 64) (hL : L ≤ 100000) :
    Calls Try.prog 60 #[.pointer (some ⟨p, 0, none⟩)] w fun e w' => e = .returned (.tuple #[]) ∧
      ∃ ws', Bs B w' p L ws' cap ∧ ws'.length = ws.length ∧ (∀ j, Bsm.bit ws' j = (Bsm.bit ws j && decide (j < L))) ∧ Below B w w' := by
  have hb0 := hb
  obtain ⟨g, h1, h2, h3, h4, h5⟩ := hb0
  have c0 : w.cell? ⟨p, 0, none⟩ = some (.int .u64 (L : Int)) := h3.cell 0 rfl
  have c1 : w.cell? ⟨p, 1, none⟩ = some (.slice (some ⟨g, 0, none⟩) ws.length cap) := h3.cell 1 rfl
  have HB := Lib.hid hb
  by_cases hm : L % 64 = 0
  · have eb : decide (L % 64 = 0) = true := by simpa using hm
    have hbt : ∀ j, Bsm.bit ws j = (Bsm.bit ws j && decide (j < L)) := by
      intro j
      by_cases hj : j < L
      · simp [hj]
      · have : ws.getD (j / 64) 0 = 0 := by
          rw [List.getD_eq_getElem?_getD, List.getElem?_eq_none (by omega)]; rfl
        unfold Bsm.bit
        rw [this]; simp [hj]
    have EB := Lib.hid eb
    have HT := Lib.hid hbt
    clear hb h1 h2 h3 h4 h5 eb hm hbt hwl
    go_enter Try.func60, Try.ntmps60
    go_wp2_with fail
    refine (exact_any B p L ws cap _ HB.out hL).mono ?_
    rintro e w1 ⟨rfl, rfl⟩
    rw [EB.out]
    go_wp2_with fail
    go_end0
    exact ⟨rfl, ws, HB.out, rfl, HT.out, Below.refl _ _⟩
  · have eb : decide (L % 64 = 0) = false := by simpa using hm
    obtain ⟨n, hn⟩ : ∃ n, ws.length = n + 1 := ⟨ws.length - 1, by omega⟩
    have hX : ws.getD n 0 < 18446744073709551616 := h5 _ (by simp [hn])
    obtain ⟨y, hy⟩ : ∃ y, ws.getD n 0 &&& (18446744073709551615 >>> (64 - L % 64)) = y := ⟨_, rfl⟩
    have hy2 : y < 18446744073709551616 := by rw [← hy]; exact Nat.and_lt_two_pow (n := 64) _ (Nat.lt_of_le_of_lt (Nat.shiftRight_le _ _) (by decide))
    have hst := Bs.store h1 h2 h3 h4 h5 n y hy2
    have hbt : ∀ j, Bsm.bit (ws.set n y) j = (Bsm.bit ws j && decide (j < L)) := by
      intro j
      unfold Bsm.bit
      simp only [List.getD_eq_getElem?_getD]
      by_cases e : j / 64 = n
      · rw [e, List.getElem?_set_self (by omega), Option.getD_some, ← hy, Bsm.low_bit _ _ _ (by omega) (by omega)]
        rw [List.getD_eq_getElem?_getD]
        congr 1
        rw [decide_eq_decide]
        omega
      · rw [List.getElem?_set_ne (fun h => e h.symm)]
        by_cases hj : j < L
        · simp [hj]
        · rw [List.getElem?_eq_none (by omega)]
          simp
    have c2 := h4.cellAt n (by omega)
    rw [u64s_at ws n (by omega)] at c2
    have f2 := h4.frozenAt n
    obtain ⟨m, hm2⟩ : ∃ m, ws.length = m := ⟨_, rfl⟩
    rw [hm2] at c1
    have hnm : n < m := by omega
    obtain ⟨X, hXX⟩ : ∃ X, ws.getD n 0 = X := ⟨_, rfl⟩
    rw [hXX] at c2 hy hX
    have hw : bits BinOp.and IntKind.u64 (X : Int) (18446744073709551615 / 2 ^ min (64 - L % 64) 64) = (y : Int) := by
      have e2 : (18446744073709551615 : Int) / 2 ^ (64 - L % 64) = ((18446744073709551615 >>> (64 - L % 64) : Nat) : Int) := by rw [Nat.shiftRight_eq_div_pow]; simp
      rw [Nat.min_eq_left (by omega)]
      refine (congrArg (bits BinOp.and IntKind.u64 (X : Int)) e2).trans ?_
      rw [← hy]
      exact u64_and_nat X _ hX (Nat.lt_of_le_of_lt (Nat.shiftRight_le _ _) (by decide))
    have hn2 : n < 100000 := by omega
    have hwn : IntKind.i64.wrap ((m : Int) - 1) = (n : Int) := by rw [IntKind.wrap_i64]; omega
    have EB := Lib.hid eb
    have HT := Lib.hid hbt
    have HST := Lib.hid hst
    have HW := Lib.hid hw
    clear hb h1 h2 h3 h4 h5 eb hm hbt hwl hst hw hX hy hy2 hXX hn hm2
    go_enter Try.func60, Try.ntmps60
    go_wp2_with fail
    refine (exact_any B p L ws cap _ HB.out hL).mono ?_
    rintro e w1 ⟨rfl, rfl⟩
    rw [EB.out]
    go_wp2_with fail

    refine wp_region_still_tail 20 (by kernel_rfl) (by kernel_rfl) ?_
    simp only [List.take_succ_cons, List.take_zero, List.drop_succ_cons, List.drop_zero]
    repeat still_step
    still_call (windex_still L _ (by omega))
    repeat still_step
    refine wpStill_nil ?_
    change wpList _ _ _ _ _ w.drew
    go_wp2_with fail
    go_end0
    rw [HW.out]
    exact ⟨rfl, ws.set n y, HST.out.1.drewN 1, by simp, HT.out, HST.out.2.drew⟩

/-- the words below i are c -/
def Bsm.lay (c : Nat) (ws : List Nat) : Nat → List Nat
  | 0 => ws
  | i + 1 => (Bsm.lay c ws i).set i c
theorem Bsm.lay_len (c : Nat) (ws : List Nat) (i : Nat) : (Bsm.lay c ws i).length = ws.length := by
  induction i with
  | zero => rfl
  | succ i ih => simp [Bsm.lay, ih]
theorem Bsm.lay_getD (c : Nat) (ws : List Nat) (i : Nat) (q : Nat) (hi : i ≤ ws.length) : (Bsm.lay c ws i).getD q 0 = if q < i then c else ws.getD q 0 := by
  induction i with
  | zero => simp [Bsm.lay]
  | succ i ih =>
    have ih' := ih (by omega)
    simp only [Bsm.lay, List.getD_eq_getElem?_getD] at ih' ⊢
    by_cases e : i = q
    · subst e
      rw [List.getElem?_set_self (by rw [Bsm.lay_len]; omega), if_pos (by omega)]
      rfl
    · rw [List.getElem?_set_ne e, ih']
      by_cases h : q < i
      · rw [if_pos h, if_pos (by omega)]
      · rw [if_neg h, if_neg (by omega)]
theorem Bsm.bit_lay (c : Nat) (ws : List Nat) (j : Nat) : Bsm.bit (Bsm.lay c ws ws.length) j = if j / 64 < ws.length then c.testBit (j % 64) else false := by
  unfold Bsm.bit
  rw [Bsm.lay_getD _ _ _ _ (Nat.le_refl _)]
  split
  · rfl
  · rename_i h
    rw [List.getD_eq_getElem?_getD, List.getElem?_eq_none (by omega)]
    simp

/-- a store into a word of a bitset -/
theorem Bs.put {B p L : Nat} {ws : List Nat} {cap : Nat} {w : World} {g : Nat} (h : Bs B w p L ws cap) (hg : w.cell? ⟨p, 1, none⟩ = some (.slice (some ⟨g, 0, none⟩) ws.length cap)) (q y : Nat) (hy : y < 18446744073709551616) (hq : q < ws.length) :
    Bs B (w.setCell ⟨g, q, none⟩ (.int .u64 (y : Int))) p L (ws.set q y) cap ∧ Below B w (w.setCell ⟨g, q, none⟩ (.int .u64 (y : Int))) ∧ w.frozen? ⟨g, q, none⟩ = false ∧
      w.cell? ⟨g, q, none⟩ = some (.int .u64 (ws.getD q 0 : Nat)) ∧ (w.setCell ⟨g, q, none⟩ (.int .u64 (y : Int))).cell? ⟨p, 1, none⟩ = some (.slice (some ⟨g, 0, none⟩) ws.length cap) := by
  obtain ⟨g', h1, h2, h3, h4, h5⟩ := h
  have c1 : w.cell? ⟨p, 1, none⟩ = some (.slice (some ⟨g', 0, none⟩) ws.length cap) := h3.cell 1 rfl
  rw [hg] at c1
  obtain rfl : g = g' := by simpa using c1
  have hst := Bs.store h1 h2 h3 h4 h5 q y hy
  have c2 := h4.cellAt q (by omega)
  rw [u64s_at ws q hq] at c2
  exact ⟨hst.1, hst.2, h4.frozenAt q, c2, (h3.other (Ne.symm h2) _).cell 1 rfl⟩
/-- the cells of a bitset -/
theorem Bs.cells {B p L : Nat} {ws : List Nat} {cap : Nat} {w : World} (h : Bs B w p L ws cap) :
    ∃ g, w.cell? ⟨p, 0, none⟩ = some (.int .u64 (L : Int)) ∧ w.cell? ⟨p, 1, none⟩ = some (.slice (some ⟨g, 0, none⟩) ws.length cap) ∧
      ∀ q, q < ws.length → w.cell? ⟨g, q, none⟩ = some (.int .u64 (ws.getD q 0 : Nat)) := by
  obtain ⟨g, h1, h2, h3, h4, h5⟩ := h
  refine ⟨g, h3.cell 0 rfl, h3.cell 1 rfl, fun q hq => ?_⟩
  have c2 := h4.cellAt q (by omega)
  rwa [u64s_at ws q hq] at c2

def LayLoop (c : Nat) (B p L : Nat) (ws : List Nat) (cap g n : Nat) (w : World) (k : Nat) (idx : Value) (wr : World) : Prop :=
  ∃ i : Nat, idx = .int .i64 (i : Int) ∧ i + k = n ∧ Bs B wr p L (Bsm.lay c ws i) cap ∧ wr.cell? ⟨p, 1, none⟩ = some (.slice (some ⟨g, 0, none⟩) n cap) ∧ Below B w wr

set_option maxRecDepth 100000 in
set_option maxHeartbeats 1000000 in
theorem clearall_any (B : Nat) (p L : Nat) (ws : List Nat) (cap : Nat) (w : World) (hb : Bs B w p L ws cap) (hwl : ws.length ≤ 100000) :
    Calls Try.prog 73 #[.pointer (some ⟨p, 0, none⟩)] w fun e w' => e = .returned (.pointer (some ⟨p, 0, none⟩)) ∧
      Bs B w' p L (Bsm.lay 0 ws ws.length) cap ∧ Below B w w' := by
  obtain ⟨g, c0, c1, c2⟩ := hb.cells
  obtain ⟨n, hn⟩ : ∃ n, ws.length = n := ⟨_, rfl⟩
  rw [hn] at c1 hwl ⊢
  have HB := Lib.hid hb
  have HN := Lib.hid hn
  clear hb hn c2
  go_enter Try.func73, Try.ntmps73
  go_wp2_with fail
  go_loopg [18] n (fun k idx wr => LayLoop 0 B p L ws cap g n w k idx wr)
  case atStart => exact ⟨0, rfl, by omega, HB.out, c1, Below.refl _ _⟩
  case round =>
    obtain ⟨i, rfl, hik, hbs, hc, hbel⟩ := hrel
    by_cases hi : i < n
    · cases gk with
      | zero => omega
      | succ k =>
        have hl : (Bsm.lay 0 ws i).length = n := by rw [Bsm.lay_len, HN.out]
        have hput := Bs.put hbs (by rw [hl]; exact hc) i 0 (by omega) (by omega)
        have hf := hput.2.2.1
        have hc2 := hput.2.2.2.1
        rw [hl] at hput
        have HP := Lib.hid hput
        clear hbs hput hl
        go_wp2_with fail
        go_roundg k
        case measure => omega
        case rel => exact ⟨i + 1, by go_num, by omega, HP.out.1, HP.out.2.2.2.2, hbel.trans HP.out.2.1⟩
    · obtain rfl : i = n := by omega
      go_wp2_with fail
      go_ret
      exact ⟨rfl, hbs, hbel⟩
end Go.Proofs.Ytbcbkieebelleaa
