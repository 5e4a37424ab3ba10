/- Walks of BitSet's Complement and Clone. -/
import Derived.Test.YtbgmkojiklphmaaBsClean
namespace Go.Proofs.Ytbgmkojiklphmaa
set_option linter.unusedVariables false
open Go.RowKit

/-- the words below i are f of their place -/
def Bsm.layf (f : Nat → Nat) (ws : List Nat) : Nat → List Nat
  | 0 => ws
  | i + 1 => (Bsm.layf f ws i).set i (f i)
theorem Bsm.layf_len (f : Nat → Nat) (ws : List Nat) (i : Nat) : (Bsm.layf f ws i).length = ws.length := by
  induction i with
  | zero => rfl
  | succ i ih => simp [Bsm.layf, ih]
theorem Bsm.layf_getD (f : Nat → Nat) (ws : List Nat) (i : Nat) (q : Nat) (hi : i ≤ ws.length) : (Bsm.layf f ws i).getD q 0 = if q < i then f q else ws.getD q 0 := by
  induction i with
  | zero => simp [Bsm.layf]
  | succ i ih =>
    have ih' := ih (by omega)
    simp only [Bsm.layf, List.getD_eq_getElem?_getD] at ih' ⊢
    by_cases e : i = q
    · subst e
      rw [List.getElem?_set_self (by rw [Bsm.layf_len]; omega), if_pos (by omega)]
      rfl
    · rw [List.getElem?_set_ne e, ih']
      by_cases h : q < i
      · rw [if_pos h, if_pos (by omega)]
      · rw [if_neg h, if_neg (by omega)]

theorem Bs.word_lt {B p L : Nat} {ws : List Nat} {cap : Nat} {w : World} (h : Bs B w p L ws cap) (q : Nat) : ws.getD q 0 < 18446744073709551616 := by
  obtain ⟨g, h1, h2, h3, h4, h5⟩ := h
  by_cases hq : q < ws.length
  · exact h5 _ (by simp [hq])
  · rw [List.getD_eq_getElem?_getD, List.getElem?_eq_none (by omega)]; simp

theorem not_word (X : Nat) (hX : X < 18446744073709551616) : bits BinOp.xor IntKind.u64 IntKind.u64.max (X : Int) = ((18446744073709551615 - X : Nat) : Int) := by
  have e : IntKind.u64.max = ((18446744073709551615 : Nat) : Int) := by rfl
  rw [e, u64_xor_nat _ X (by omega) hX]
  congr 1
  apply Nat.eq_of_testBit_eq
  intro j
  have e1 : (18446744073709551615 : Nat) - X = 2 ^ 64 - (X + 1) := by omega
  have e2 : (18446744073709551615 : Nat) = 2 ^ 64 - 1 := by rfl
  rw [Nat.testBit_xor, e1, Nat.testBit_two_pow_sub_succ (by omega), e2, Nat.testBit_two_pow_sub_one]
  by_cases hj : j < 64
  · simp [hj]
  · have h64 : 2 ^ 64 ≤ 2 ^ j := Nat.pow_le_pow_right (by decide) (by omega)
    have : X.testBit j = false := Nat.testBit_lt_two_pow (Nat.lt_of_lt_of_le hX h64)
    simp [hj, this]

theorem notnull_any (p : Addr) (w : World) : Calls Try.prog 95 #[.pointer (some p)] w fun e w' => e = .returned (.tuple #[]) ∧ w = w' := by
  go_enter Try.func95, Try.ntmps95
  go_wp2
  go_end0
  exact ⟨rfl, rfl⟩

def CompLoop (f : Nat → Nat) (B p r L n g' : Nat) (w : World) (k : Nat) (idx : Value) (wr : World) : Prop :=
  ∃ i : Nat, idx = .int .i64 (i : Int) ∧ i + k = n ∧ Bs w.heap.size wr r L (Bsm.layf f (List.replicate n 0) i) n ∧ wr.cell? ⟨r, 1, none⟩ = some (.slice (some ⟨g', 0, none⟩) n n) ∧ Below w.heap.size w wr

set_option maxRecDepth 100000 in
set_option maxHeartbeats 1000000 in
theorem complement_any (B : Nat) (p L : Nat) (ws : List Nat) (cap : Nat) (w : World) (hb : Bs B w p L ws cap) (hwl : ws.length = (L + 63) / 64) (hL : L ≤ 100000) :
    Calls Try.prog 72 #[.pointer (some ⟨p, 0, none⟩)] w fun e w' => ∃ r ws', e = .returned (.pointer (some ⟨r, 0, none⟩)) ∧
      Bs w.heap.size w' r L ws' ((L + 63) / 64) ∧ ws'.length = (L + 63) / 64 ∧ (∀ j, Bsm.bit ws' j = (!Bsm.bit ws j && decide (j < L))) ∧ Below w.heap.size w w' := by
  obtain ⟨g, c0, c1, c2⟩ := hb.cells
  obtain ⟨n, hn⟩ : ∃ n, ws.length = n := ⟨_, rfl⟩
  have hlt := hb.word_lt
  have hbt : ∀ j, (Bsm.bit (Bsm.layf (fun q => 18446744073709551615 - ws.getD q 0) (List.replicate n 0) n) j && decide (j < L)) = (!Bsm.bit ws j && decide (j < L)) := by
    intro j
    unfold Bsm.bit
    rw [Bsm.layf_getD _ _ _ _ (by simp)]
    by_cases hj : j < L
    · rw [if_pos (by omega)]
      have e : (18446744073709551615 : Nat) - ws.getD (j / 64) 0 = 2 ^ 64 - (ws.getD (j / 64) 0 + 1) := by omega
      rw [e, Nat.testBit_two_pow_sub_succ (hlt _)]
      have : j % 64 < 64 := by omega
      simp [hj, this]
    · simp [hj]
  have hlen : (Bsm.layf (fun q => 18446744073709551615 - ws.getD q 0) (List.replicate n 0) n).length = (L + 63) / 64 := by rw [Bsm.layf_len, List.length_replicate]; omega
  rw [hn] at c1 c2 hwl
  rw [← hwl] at hlen ⊢
  have hn2 : n ≤ 100000 := by omega
  have HB := Lib.hid hb
  have HLT := Lib.hid hlt
  have HBT := Lib.hid hbt
  have HN := Lib.hid hn
  have HC2 := Lib.hid c2
  have HWL := Lib.hid hwl
  have HLEN := Lib.hid hlen
  clear hb hlt hbt hn c2 hlen hwl
  go_enter Try.func72, Try.ntmps72
  go_wp2_with fail
  refine (notnull_any _ _).mono ?_
  rintro e w' ⟨rfl, rfl⟩
  go_wp2_with fail
  refine (new_any L _ (by omega)).mono ?_
  rintro e w1 ⟨r, rfl, hbs, hb1⟩
  rw [← HWL.out] at hbs
  obtain ⟨g', d0, d1, d2⟩ := hbs.cells
  rw [List.length_replicate] at d1
  have HBS := Lib.hid hbs
  clear hbs d2
  have b0 := HB.out.below hb1
  have e1 : w1.cell? ⟨p, 1, none⟩ = some (.slice (some ⟨g, 0, none⟩) n cap) := (hb1.cell (World.block_lt_of_cell? w _ c1)).trans c1
  clear b0
  go_wp2_with fail
  go_loopg [17] n (fun k idx wr => CompLoop (fun q => 18446744073709551615 - ws.getD q 0) B p r L n g' w k idx wr)
  case atStart => exact ⟨0, rfl, by omega, HBS.out, d1, hb1⟩
  case round =>
    obtain ⟨i, rfl, hik, hbs, hc, hbel⟩ := hrel
    by_cases hi : i < n
    · cases gk with
      | zero => omega
      | succ k =>
        have hX := HLT.out i
        have hcx := (hbel.cell (World.block_lt_of_cell? w _ (HC2.out i hi))).trans (HC2.out i hi)
        have hl : (Bsm.layf (fun q => 18446744073709551615 - ws.getD q 0) (List.replicate n 0) i).length = n := by rw [Bsm.layf_len, List.length_replicate]
        obtain ⟨Y, hY⟩ : ∃ Y, 18446744073709551615 - ws.getD i 0 = Y := ⟨_, rfl⟩
        have hput := Bs.put hbs (by rw [hl]; exact hc) i Y (by omega) (by omega)
        have hlay : (Bsm.layf (fun q => 18446744073709551615 - ws.getD q 0) (List.replicate n 0) i).set i Y = Bsm.layf (fun q => 18446744073709551615 - ws.getD q 0) (List.replicate n 0) (i + 1) := by rw [← hY]; rfl
        rw [hlay, hl] at hput
        have hf := hput.2.2.1
        have hc2 := hput.2.2.2.1
        obtain ⟨X, hXX⟩ : ∃ X, ws.getD i 0 = X := ⟨_, rfl⟩
        rw [hXX] at hcx hX hY
        have hxor : bits BinOp.xor IntKind.u64 IntKind.u64.max (X : Int) = (Y : Int) := by rw [not_word X hX, hY]
        have HX := Lib.hid hxor
        have HP := Lib.hid hput
        clear hbs hput hl hX hY hlay hXX hxor
        have hsg : IntKind.u64.signed = false := rfl
        go_wp2_with fail
        rw [HX.out]
        go_roundg k
        case measure => omega
        case rel => exact ⟨i + 1, by go_num, by omega, HP.out.1, HP.out.2.2.2.2, hbel.trans (HP.out.2.1)⟩
    · obtain rfl : i = n := by omega
      have HBS2 := Lib.hid hbs
      clear hbs
      go_wp2_with fail
      refine (clean_any _ r L _ i _ HBS2.out (HLEN.out.trans HWL.out) hL).mono ?_
      rintro e w2 ⟨rfl, ws2, hb2, hl2, hbit2, hbel2⟩
      rw [HLEN.out] at hl2
      have HBIT := Lib.hid hbit2
      clear hbit2
      go_wp2_with fail
      go_ret
      exact ⟨r, ws2, rfl, hb2, hl2, fun j => (HBIT.out j).trans (HBT.out j), hbel.trans hbel2⟩

set_option maxRecDepth 100000 in
set_option maxHeartbeats 1000000 in
theorem clone_any (B : Nat) (p L : Nat) (ws : List Nat) (cap : Nat) (w : World) (hb : Bs B w p L ws cap) (hwl : ws.length = (L + 63) / 64) (hL : L ≤ 100000) :
    Calls Try.prog 73 #[.pointer (some ⟨p, 0, none⟩)] w fun e w' => ∃ r, e = .returned (.pointer (some ⟨r, 0, none⟩)) ∧
      Bs w.heap.size w' r L ws ((L + 63) / 64) ∧ Below w.heap.size w w' := by
  obtain ⟨n, hn⟩ : ∃ n, ws.length = n := ⟨_, rfl⟩
  obtain ⟨g, h1, h2, h3, h4, h5⟩ := hb
  rw [hn] at h3 h4
  have c0 : w.cell? ⟨p, 0, none⟩ = some (.int .u64 (L : Int)) := h3.cell 0 rfl
  have c1 : w.cell? ⟨p, 1, none⟩ = some (.slice (some ⟨g, 0, none⟩) n cap) := h3.cell 1 rfl
  have hwl2 : n = (L + 63) / 64 := by omega
  rw [← hwl2]
  have hn2 : n ≤ 100000 := by omega
  have H3 := Lib.hid h3
  have HS := Lib.hid (Sl.of_owns h4)
  have H5 := Lib.hid h5
  have HN := Lib.hid hn
  have HWL := Lib.hid hwl2
  clear h1 h2 h3 h4 h5 hn hwl hwl2
  go_enter Try.func73, Try.ntmps73
  go_wp2_with fail
  refine (new_any L _ (by omega)).mono ?_
  rintro e w1 ⟨r, rfl, hbs, hb1⟩
  rw [← HWL.out] at hbs
  obtain ⟨g', q1, q2, q3, q4, q5⟩ := hbs
  rw [List.length_replicate] at q3 q4
  have d1 : w1.cell? ⟨r, 1, none⟩ = some (.slice (some ⟨g', 0, none⟩) n n) := q3.cell 1 rfl
  have bk := H3.out.below hb1 H3.out.lt
  have e0 : w1.cell? ⟨p, 0, none⟩ = some (.int .u64 (L : Int)) := bk.cell 0 rfl
  have e1 : w1.cell? ⟨p, 1, none⟩ = some (.slice (some ⟨g, 0, none⟩) n cap) := bk.cell 1 rfl
  have Q3 := Lib.hid q3
  have Q4 := Lib.hid q4
  clear q3 q4 q5 bk
  go_wp2_with fail
  refine wp_region_still_tail 8 (by kernel_rfl) (by kernel_rfl) ?_
  simp only [List.take_succ_cons, List.take_zero, List.drop_succ_cons, List.drop_zero]
  repeat still_step
  refine wpStill_nil ?_
  change wpList _ _ _ _ _ w1.drew
  refine wpList_copySl rfl _ _ 36 36 rfl w.heap.size 63 (.int .u64 0) 8 Try.underlying36 info_w64 g' n n (u64s (List.replicate n 0)) rfl Q4.out (.slice (some ⟨g, 0, none⟩) n cap) (u64s ws) rfl (HS.out.below rfl (hb1.trans (Below.refl _ _).drew)) (by rw [u64s_len, HN.out]; omega) (u64_cells _) ?_
  intro w2 hown2 hg2 hb2
  have hrs := (Q3.out.drew).grown hg2 (by simpa using q2)
  go_wp2_with fail
  go_ret
  have er : u64s ws ++ (u64s (List.replicate n 0)).drop (u64s ws).length = u64s ws := by
    rw [u64s_len, HN.out, List.drop_eq_nil_of_le (by rw [u64s_len]; simp), List.append_nil]
  rw [er] at hown2
  refine ⟨r, rfl, ⟨g', q1, q2, ?_, ?_, H5.out⟩, ((hb1.trans (Below.refl _ _).drew).trans hb2)⟩
  · rw [HN.out]; exact hrs
  · rw [HN.out]; exact hown2
end Go.Proofs.Ytbgmkojiklphmaa
