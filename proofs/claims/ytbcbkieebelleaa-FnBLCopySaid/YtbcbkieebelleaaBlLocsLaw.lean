/- FnBLLocations. -/
import Derived.Test.YtbcbkieebelleaaBlBytes
import Derived.Outline
namespace Go.Proofs.Ytbcbkieebelleaa
set_option linter.unusedVariables false
open Go.RowKit

def EqLoop (n : Nat) (w : World) (k : Nat) (iv : Value) (wr : World) : Prop := ∃ i j : Nat, iv = .int .i64 (i : Int) ∧ i + k = n ∧ wr = w.drewN j

set_option maxRecDepth 100000 in
set_option maxHeartbeats 4000000 in
theorem law_bllocs (v : Value) (b : Int) (w : World) (hv : AnyU8s w v) (hb : (Lit.int .u8 b).wf = true) :
    Calls Try.prog 6 #[v, .int .u8 b] w fun e w' => e = .returned (.bool true) ∧ Below w.heap.size w w' := by
  have hB : 0 ≤ b ∧ b ≤ 255 := by simp [Lit.wf, IntKind.min, IntKind.max, IntKind.signed, IntKind.bits] at hb; omega
  obtain ⟨y, rfl⟩ := Int.eq_ofNat_of_zero_le hB.1
  obtain ⟨m, hm⟩ : ∃ m : Nat, y % 21 = m := ⟨_, rfl⟩
  have e2 : (y : Int) % 21 = (m : Int) := by omega
  have hm2 : m ≤ 20 := by omega
  have hB2 : (y : Int) ≤ 255 := hB.2
  obtain ⟨xs, hs⟩ := hv
  have hs0 := hs
  obtain ⟨a1, n1, c1, rfl, _, _, hm1, _⟩ := hs0
  unfold maxLen at hm1
  have hn1 : (n1 : Int) ≤ 9223372036854775807 := by omega
  have HS := Lib.hid hs
  clear hs hB hb hm hm1
  by_cases hbig : 2147483647 < n1
  · go_enter Try.func6, Try.ntmps6
    go_wp2_with fail
    go_ret
    exact ⟨rfl, Below.refl _ _⟩
  · have hd0 : decide ((2147483647 : Int) < (n1 : Int)) = false := by simp; omega
    go_enter Try.func6, Try.ntmps6
    go_wp2_with fail
    refine (bldata_any _ xs w HS.out).mono ?_
    rintro e w' ⟨a, n, cap, rfl, rfl, hn80, bs, hsl⟩
    have hbt := Bt.of_sl hsl
    have hbl : bs.length ≤ 100000 := by rw [← hbt.2.1]; omega
    obtain ⟨r1, r2, r3, r4, L, hL, hbase⟩ := locs_ex bs hbl
    have HL : Hid (LocIs r1 r2 r3 r4 L) := Lib.hid hL
    have HBASE : Hid (BaseIs bs r1 r2 r3 r4) := Lib.hid hbase
    have HSL := Lib.hid hsl
    have HBT := Lib.hid hbt
    have HN := Lib.hid hn80
    clear hL hbase hsl hbt hn80 hbl
    go_wp2_with fail
    refine (bllocs_any bs r1 r2 r3 r4 L HL.out HBASE.out n cap m a w HBT.out.1 HBT.out.2.1 HBT.out.2.2.1 HBT.out.2.2.2.1 HBT.out.2.2.2.2 (by omega)).mono ?_
    rintro e w1 ⟨v1, rfl, hown1, hb1⟩
    have hs1 := hb1.size
    have hb2 : Below w1.heap.size w1 (w1.alloc (.cells #[] 5)) := (Below.refl _ _).alloc (Nat.le_refl _) _
    have HS1 := Lib.hid (Sl.of_owns hown1)
    obtain ⟨q1, l1, t1, rfl, hl1, _⟩ := Sl.of_owns hown1
    have HSL2 := Lib.hid ((HSL.out.below rfl hb1).below rfl hb2)
    have HB1 := Lib.hid hb1
    have HB2 := Lib.hid hb2
    have hlen : (u8s bs).length = n := by have := HBT.out.2.1; simp [u8s]; omega
    have HLEN := Lib.hid hlen
    clear hb1 hb2 hlen
    go_wp2_with (at_builtin; refine wpList_appendSl rfl _ _ 49 49 rfl w1.heap.size 5 5 (.int .u8 0) 1 Try.underlying49 Try.underlying49 info_u8 rfl _ 0 [] rfl (empty_own w1 w1.heap.size 5 (Nat.le_refl _)) _ (u8s bs) rfl HSL2.out (u8_cells _) (by rw [HLEN.out]; have := HN.out; unfold maxLen; omega) (by rw [HLEN.out]; have := HN.out; omega) (by simp) ?_; intro p1 m1 cap1 w2 hown2 _ hb3)
    have hmm1 := ownsRow_len hown2
    rw [HLEN.out, Nat.zero_add] at hmm1
    have hmm2 : m1 = n := hmm1
    clear hmm1
    rw [HLEN.out, Nat.zero_add, List.nil_append] at hown2
    subst hmm2
    have hbt2 := Bt.of_sl (Sl.of_owns hown2)
    have hz2 : w1.heap.size < w2.heap.size := by have := hb3.size; simp at this; omega
    have hb12 := HB2.out.trans hb3
    have HS2 := Lib.hid (HS1.out.below rfl hb12)
    have HB3 := Lib.hid (HB1.out.trans (hb12.mono hs1))
    have HBT2 := Lib.hid hbt2
    clear hb3 hb12 hown2 hbt2
    refine (bllocs_any bs r1 r2 r3 r4 L HL.out HBASE.out _ cap1 m p1 w2 HBT2.out.1 HBT2.out.2.1 HBT2.out.2.2.1 HBT2.out.2.2.2.1 HBT2.out.2.2.2.2 (by omega)).mono ?_
    rintro e w3 ⟨v2, rfl, hown3, hb4⟩
    have HT := Lib.hid (HB3.out.trans (hb4.mono HB3.out.size))
    have s1 := HS2.out.below rfl hb4
    have s2 := Sl.of_owns hown3
    obtain ⟨a1', n1', c1', e1, hl1', hc1', hm1', hr1⟩ := s1
    cases e1
    obtain ⟨q2, l2, t2, rfl, hl2, hc2', hm2', hr2⟩ := s2
    have f1 : l1 = m := by rw [← hl1']; simp [u64s, lays]
    have f2 : l2 = m := by rw [← hl2]; simp [u64s, lays]
    subst f1
    subst f2
    clear hl1 hl1' hl2 hc1' hm1' hc2' hm2' hown3 hb4 hown1
    have hneq : ((l2 : Int) != (l2 : Int)) = false := by simp
    go_wp2_with fail
    try rw [hd0]
    go_loopg [9] l2 (fun k iv wr => EqLoop l2 w3 k iv wr)
    case atStart => exact ⟨0, 0, rfl, by omega, rfl⟩
    case round =>
      obtain ⟨i, j, rfl, hik, rfl⟩ := hrel
      by_cases hi : i < l2
      · cases gk with
        | zero => omega
        | succ k =>
          obtain ⟨b1, o1, rfl, hcell1⟩ := hr1 (by omega)
          obtain ⟨b2, o2, rfl, hcell2⟩ := hr2 (by omega)
          have g1 : (w3.drewN j).cell? ⟨b1, o1 + i, none⟩ = _ := hcell1 i _ (lays_at L l2 l2 i hi)
          have g2 : (w3.drewN j).cell? ⟨b2, o2 + i, none⟩ = _ := hcell2 i _ (lays_at L l2 l2 i hi)
          obtain ⟨X, hX⟩ : ∃ X : Nat, (if i < l2 then L i else 0) = X := ⟨_, rfl⟩
          rw [hX] at g1 g2
          obtain ⟨W, hW⟩ : ∃ W, w3.drewN j = W := ⟨_, rfl⟩
          rw [hW] at g1 g2 ⊢
          have HW := Lib.hid hW
          have hXX : ((X : Int) != (X : Int)) = false := by simp
          have hi0 : (0 : Int) ≤ (i : Int) := by omega
          have hi1 : (i : Int) < (l2 : Int) := by omega
          clear hr1 hr2 hcell1 hcell2 hX hW
          go_wp2_with fail
          go_quiet (fail)
          go_wp2_with fail
          go_roundg k
          case measure => omega
          case rel => exact ⟨i + 1, _, by go_num, by omega, by rw [← HW.out, World.drewN_drewN]⟩
      · obtain rfl : i = l2 := by omega
        have hd : decide ((i : Int) < (i : Int)) = false := by simp
        go_wp2_with fail
        go_ret
        exact ⟨rfl, below_drewN HT.out _⟩
end Go.Proofs.Ytbcbkieebelleaa
