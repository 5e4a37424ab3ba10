/- Walks of impl.BLNew and of the law FnBLNew: it returns true at every input. -/
import Derived.Test.YtbcbkieebelleaaBlSame
namespace Go.Proofs.Ytbcbkieebelleaa
set_option linter.unusedVariables false
open Go.RowKit

set_option maxHeartbeats 400000 in
theorem blnew_any (m k : Nat) (w : World) (hm : m ≤ 100000) (hk : k ≤ 1000000) :
    Calls Try.prog 19 #[.int .u64 (m : Int), .int .u64 (k : Int)] w fun e w' => ∃ v', e = .returned v' ∧ OwnFil w.heap.size w' v' (max 1 m) (max 1 k) (List.replicate ((m + 63) / 64) 0) ∧ Below w.heap.size w w' := by
  have HBK := Lib.hid (Blk.new w 39 #[.int .u64 0, .int .u64 0, .slice none 0 0])
  have HB0 : Hid (Below w.heap.size w (w.alloc (.cells #[.int .u64 0, .int .u64 0, .slice none 0 0] 39))) := (Below.refl _ _).alloc (Nat.le_refl _) _
  go_enter Try.func19, Try.ntmps19
  go_wp2_with fail
  refine (flnew_any m k _ (by omega) hk).mono ?_
  rintro e w1 ⟨f, p, rfl, hbf, hb1⟩
  have HBF := Lib.hid hbf
  have hs1 := hb1.size
  simp only [World.size_alloc] at hs1
  clear hbf
  go_wp2_with fail
  refine (told_any _ f p _ _ m _ _ _ HBF.out (by rw [List.length_replicate]; omega)).mono ?_
  rintro e w2 ⟨v', rfl, hof, hb2⟩
  have HOF := Lib.hid hof
  obtain ⟨a, n, cap, rfl, _⟩ := hof
  have hs2 := hb2.size
  have bk := (HBK.out.below hb1 (by simp)).below hb2 (by omega)
  have q0 : w2.cell? ⟨w.heap.size, 0, none⟩ = some (.int .u64 0) := bk.cell 0 rfl
  have q1 : w2.cell? ⟨w.heap.size, 1, none⟩ = some (.int .u64 0) := bk.cell 1 rfl
  have q2 : w2.cell? ⟨w.heap.size, 2, none⟩ = some (.slice none 0 0) := bk.cell 2 rfl
  have y0 := bk.free 0
  have y1 := bk.free 1
  have y2 := bk.free 2
  clear bk
  obtain ⟨M, hM⟩ : ∃ M : Nat, max 1 m = M := ⟨_, rfl⟩
  obtain ⟨K, hK⟩ : ∃ K : Nat, max 1 k = K := ⟨_, rfl⟩
  rw [hM, hK] at HOF ⊢
  have HM := Lib.hid hM
  have HK := Lib.hid hK
  clear hM hK
  go_wp2_with fail
  refine bodyPost_ret (v := .agg #[.int .u64 (M : Int), .int .u64 (K : Int), .slice a n cap]) (by simp [results, Try.results19, go_sem, *]) rfl ?_
  rw [HM.out, HK.out]
  exact ⟨_, rfl, (((HOF.out.set (by simp; omega) _).set (by simp; omega) _).set (by simp; omega) _).weaken (by omega), ((((HB0.out.trans (hb1.mono (by simp))).trans (hb2.mono (by omega))).setCell (by simp) _).setCell (by simp) _).setCell (by simp) _⟩

theorem bitsOf_zeros (n M : Nat) : Bsm.bitsOf (List.replicate n 0) M = List.replicate M false := by
  apply Bsm.ext_getD
  · simp [Bsm.bitsOf_len]
  · intro j _
    rw [Bsm.bitsOf_get, Bsm.bit_zeros]
    simp [List.getD_eq_getElem?_getD, List.getElem?_replicate]
    split <;> simp

set_option maxRecDepth 100000 in
set_option maxHeartbeats 400000 in
theorem law_blnew (a b : Int) (w : World) (ha : (Lit.int .u16 a).wf = true) (hb : (Lit.int .u8 b).wf = true) :
    Calls Try.prog 4 #[.int .u16 a, .int .u8 b] w fun e w' => e = .returned (.bool true) ∧ Below w.heap.size w w' := by
  have hA : 0 ≤ a ∧ a ≤ 65535 := by simp [Lit.wf, IntKind.min, IntKind.max, IntKind.signed, IntKind.bits] at ha; omega
  have hB : 0 ≤ b ∧ b ≤ 255 := by simp [Lit.wf, IntKind.min, IntKind.max, IntKind.signed, IntKind.bits] at hb; omega
  obtain ⟨x, rfl⟩ := Int.eq_ofNat_of_zero_le hA.1
  obtain ⟨y, rfl⟩ := Int.eq_ofNat_of_zero_le hB.1
  obtain ⟨m, hm⟩ : ∃ m : Nat, 1 + x % 2000 = m := ⟨_, rfl⟩
  obtain ⟨k, hk⟩ : ∃ k : Nat, y % 21 = k := ⟨_, rfl⟩
  have e1 : (1 : Int) + (x : Int) % 2000 = (m : Int) := by omega
  have e2 : (y : Int) % 21 = (k : Int) := by omega
  have hm1 : 1 ≤ m := by omega
  have hm2 : m ≤ 2000 := by omega
  have hk2 : k ≤ 20 := by omega
  have hA2 := hA.2
  have hB2 := hB.2
  clear hA hB ha hb hm hk
  by_cases hk1 : 1 ≤ k
  all_goals
    go_enter Try.func4, Try.ntmps4
    go_wp2_with fail
    refine (blnew_any m k _ (by omega) (by omega)).mono ?_
    rintro e w1 ⟨v1, rfl, hof, hb1⟩
    rw [show max 1 m = m by omega] at hof
    obtain ⟨K, hKK⟩ : ∃ K : Nat, max 1 k = K := ⟨_, rfl⟩
    rw [hKK] at hof
    have HKK := Lib.hid hKK
    clear hKK
    have HOF := Lib.hid hof
    obtain ⟨p, n, cap, rfl, _⟩ := hof
    go_wp2_with fail
    refine (blnone_any m _ (by omega)).mono ?_
    rintro e w2 ⟨v2, rfl, hown, hb2⟩
    have HS := Lib.hid (Sl.of_owns hown)
    have HF := Lib.hid (HOF.out.is.below rfl hb2)
    have hs1 := hb1.size
    have HT := Lib.hid (hb1.trans (hb2.mono hs1))
    obtain ⟨q, n2, cap2, rfl, _⟩ := Sl.of_owns hown
    clear hown hb1 hb2
    go_wp2_with fail
    refine (blsame_yes _ _ _ _ _ _ _ _ HF.out HS.out ?hK ?hl ?hw ?hbs ?hM).mono ?_
    case hK => have := HKK.out; omega
    case hl => rw [List.length_replicate]; omega
    case hw => rw [List.length_replicate]; omega
    case hbs => exact bitsOf_zeros _ _
    case hM => omega
    rintro e w3 ⟨rfl, hb3⟩
    have HT3 := Lib.hid (HT.out.trans (hb3.mono HT.out.size))
    clear hb3
    go_wp2_with fail
    go_ret
    exact ⟨rfl, HT3.out⟩
end Go.Proofs.Ytbcbkieebelleaa
