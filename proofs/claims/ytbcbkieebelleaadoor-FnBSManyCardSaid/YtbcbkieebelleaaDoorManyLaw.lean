/- The walk of the law FnBSMany: it returns true at every input. -/
import Derived.Test.YtbcbkieebelleaaDoorManyImpl
namespace Go.Proofs.YtbcbkieebelleaaDoor
set_option linter.unusedVariables false
open Go.RowKit

theorem posn_more (bs : List Bool) (a T : Nat) : Bsm.posn bs a ++ posr (fun j => bs.getD j false) a T = Bsm.posn bs (a + T) := by
  rw [← posr_posn, ← posr_posn, posr_add, Nat.zero_add]
theorem posn_done (bs : List Bool) (a : Nat) (h : ∀ x, a ≤ x → bs.getD x false = false) : Bsm.posn bs a = Bsm.pos bs := by
  rw [← Bsm.posn_past bs a, Nat.add_comm, ← posr_posn, ← posr_posn, posr_skip _ 0 a bs.length fun x hx _ => h x (by omega)]

theorem IsBits.places {w : World} {L s : Value} {bs : List Bool} (h : IsBits w (.agg #[L, s]) bs) : Sl w s (u64s (Bsm.pos bs)) := by
  obtain ⟨s2, e, h⟩ := h
  simp only [Value.agg.injEq, Array.mk.injEq, List.cons.injEq, and_true] at e
  rw [e.2]
  exact h

/-- the loop of FnBSMany: the places before at have been found -/
def ManyLoop (bs : List Bool) (A : Nat) (w : World) (k : Nat) (all a idx : Value) (wr : World) : Prop :=
  ∃ (t i : Nat) (p : Option Addr) (m cap : Nat), all = .slice p m cap ∧ a = .int .u64 (i : Int) ∧ idx = .int .i64 (t : Int) ∧ t + k = 500 ∧ t ≤ i ∧ i ≤ bs.length + 63 ∧
    wr.ownsRow A 22 1 (.slice p m cap) (Bsm.posn bs i).length (u64s (Bsm.posn bs i)) ∧ Below A w wr

set_option maxRecDepth 100000 in
set_option maxHeartbeats 4000000 in
theorem law_bsmany (v : Value) (x : Int) (w : World) (hv : AnyBits w v) (hx : (Lit.int .u8 x).wf = true) (hT : Tab w) :
    Calls Tryd.prog 3 #[v, .int .u8 x] w fun e w' => e = .returned (.bool true) ∧ Below w.heap.size w w' := by
  have hX : 0 ≤ x ∧ x ≤ 255 := by simp [Lit.wf, IntKind.min, IntKind.max, IntKind.signed, IntKind.bits] at hx; omega
  obtain ⟨y, rfl⟩ := Int.eq_ofNat_of_zero_le hX.1
  obtain ⟨rm, hrm⟩ : ∃ rm : Nat, 1 + y % 80 = rm := ⟨_, rfl⟩
  have hxi : (1 : Int) + (y : Int) % 80 = (rm : Int) := by omega
  have hr1 : 1 ≤ rm := by omega
  have hr2 : rm ≤ 80 := by omega
  have hX2 := hX.2
  have HV0 := hv
  obtain ⟨L, s, xs, rfl, hL, hs, hx2⟩ := hv
  obtain ⟨a, m, cap, rfl, hl, hc, hm, hr⟩ := hs
  have hmm : m ≤ maxLen := by omega
  have HV := Lib.hid HV0
  have hb0 : Below w.heap.size w (w.alloc (.cells #[.int .u64 (L : Int), .slice a m cap] 25)) := (Below.refl _ _).alloc (Nat.le_refl _) _
  have HB0 := Lib.hid hb0
  have HT := Lib.hid (hT.below hb0 hT.lt)
  have HTL := Lib.hid hT.lt
  clear HV0 hL hx2 hl hc hm hr hb0 hT hX hx hrm
  by_cases hf : (m : Int) ≤ 2147483647
  · have HF := Lib.hid (show decide ((m : Int) ≤ 2147483647) = true by simpa using hf)
    clear hf
    go_enter Tryd.func3, Tryd.ntmps3
    go_wp2_with fail
    refine (fits_any _ a m cap _ hmm).mono ?_
    rintro e w1 ⟨rfl, hb1⟩
    rw [HF.out]
    have hz1 := hb1.size
    rw [World.size_alloc] at hz1
    have bk1 := (Blk.new w 25 #[.int .u64 (L : Int), .slice a m cap]).below hb1 (by simp)
    have c0 : w1.cell? ⟨w.heap.size, 0, none⟩ = some (.int .u64 (L : Int)) := bk1.cell 0 rfl
    have c1 : w1.cell? ⟨w.heap.size, 1, none⟩ = some (.slice a m cap) := bk1.cell 1 rfl
    clear bk1
    go_wp2_with fail
    refine (bits_any _ _ ?hb).mono ?_
    case hb => exact (HV.out.below rfl HB0.out).below rfl hb1
    rintro e w2 ⟨va, bs, rfl, hbl, hob, hb2⟩
    have HOB := Lib.hid hob
    obtain ⟨p1, m1, k1, rfl, _⟩ := hob
    have hz2 := hb2.size
    have HT2 := Lib.hid ((HT.out.below hb1 (by simp)).below hb2 (by have := HTL.out; omega))
    have HB2 : Hid (Below w.heap.size w w2) := (HB0.out.trans (hb1.mono (by simp))).trans (hb2.mono (by omega))
    have hbA : Below w2.heap.size w2 (w2.alloc (.cells #[.int .u64 (bs.length : Int), .slice p1 m1 k1] 25)) := (Below.refl _ _).alloc (Nat.le_refl _) _
    have HIA := Lib.hid (HOB.out.is.below rfl hbA)
    have HBK := Lib.hid (Blk.new w2 25 #[.int .u64 (bs.length : Int), .slice p1 m1 k1])
    have HT3 := Lib.hid (HT2.out.below hbA HT2.out.lt)
    have HBA := Lib.hid hbA
    have hz3 : w.heap.size < w2.heap.size := by omega
    clear hb1 hb2 c0 c1 hz1 hz2 HV HB0 HF hmm hbA HT HT2
    go_wp2_with fail
    go_loopg [7, 8, 9] 500 (fun k all a idx wr => ManyLoop bs (w2.heap.size + 1) (w2.alloc (.cells #[.int .u64 (bs.length : Int), .slice p1 m1 k1] 25)) k all a idx wr)
    case atStart => exact ⟨0, 0, none, 0, 0, rfl, rfl, rfl, by omega, by omega, by omega, World.ownsRow_nil _ _ _ _, Below.refl _ _⟩
    case round =>
      obtain ⟨t, i, p, m, cap0, rfl, rfl, rfl, htk, hti, hi, hown, hbel⟩ := hrel
      have hszA : (w2.alloc (.cells #[.int .u64 (bs.length : Int), .slice p1 m1 k1] 25)).heap.size = w2.heap.size + 1 := by simp
      have hbk := HBK.out.below hbel (by omega)
      have d0 : wr.cell? ⟨w2.heap.size, 0, none⟩ = some (.int .u64 (bs.length : Int)) := hbk.cell 0 rfl
      have d1 : wr.cell? ⟨w2.heap.size, 1, none⟩ = some (.slice p1 m1 k1) := hbk.cell 1 rfl
      have HO := Lib.hid hown
      have HIS := Lib.hid (HIA.out.below hszA.symm hbel)
      have HTB := Lib.hid (HT3.out.below hbel (by omega))
      have HBL := Lib.hid hbel
      have hsz : w2.heap.size + 1 ≤ wr.heap.size := by have := hbel.size; omega
      have HW : Hid (Below w.heap.size w wr) := HB2.out.trans ((HBA.out.trans (hbel.mono (by omega))).mono (by omega))
      have ht5 : t < 500 := by omega
      clear hown hbel hbk HBK HIA HT3 HBA hszA
      cases gk with
      | zero => omega
      | succ k =>
        go_wp2_with fail
        refine (bsnextmany_any _ bs i rm _ HIS.out hbl (by omega) hr1 (by omega) HTB.out).mono ?_
        rintro e w3 ⟨cs, T, last, g, rfl, hsl, hcs, hd, htop, hb3⟩
        have hz4 := hb3.size
        have HSL := Lib.hid hsl
        have HCS := Lib.hid hcs
        have HTOP := Lib.hid htop
        have HB3 := Lib.hid hb3
        have e0 := (hb3.cell (p := ⟨w2.heap.size, 0, none⟩) (by simp only []; omega)).trans d0
        have e1 := (hb3.cell (p := ⟨w2.heap.size, 1, none⟩) (by simp only []; omega)).trans d1
        have HO3 := Lib.hid (ownsRow_below HO.out hb3)
        have HCL : Hid (cs.length ≤ 463) := by rw [hcs]; have := posr_len (fun j => bs.getD j false) i T; unfold Hid; omega
        clear hsl hcs htop hb3 d0 d1
        rcases hd with ⟨rfl, hnone⟩ | ⟨hne, hlast⟩
        · have HN := Lib.hid (posn_done bs i hnone)
          clear hnone
          go_wp2_with fail
          have hs3 := (HIS.out.below rfl HB3.out).places
          refine (list_any _ _ _ _ _ (Sl.of_owns HO3.out) hs3 true (by simpa using HN.out)).mono ?_
          rintro e w4 ⟨rfl, nq, rfl⟩
          go_wp2_with fail
          go_ret
          exact ⟨rfl, below_drewN (HW.out.trans (HB3.out.mono (by omega))) _⟩
        · have hc0 : ((cs.length : Int) == 0) = false := by
            have : cs.length ≠ 0 := fun h => hne (List.eq_nil_of_length_eq_zero h)
            simp; omega
          have hlast2 : (last : Int) + 1 = ((i + T : Nat) : Int) := by omega
          have hT1 : 1 ≤ T := by
            rcases Nat.eq_zero_or_pos T with h | h
            · subst h; exact absurd HCS.out hne
            · exact h
          have htp : i + T ≤ bs.length + 63 := by have := HTOP.out; omega
          have hpl := Bsm.posn_len bs i
          have hm1 : (Bsm.posn bs i).length + (u64s cs).length ≤ 1000 := by rw [u64s_len]; have := HCL.out; omega
          have HM1 := Lib.hid hm1
          clear hne hlast hpl hm1
          go_wp2_with (at_builtin; refine wpList_appendSl rfl _ _ 23 23 rfl (w2.heap.size + 1) 22 22 (.int .u64 0) 8 Tryd.underlying23 Tryd.underlying23 info_u64 rfl _ _ _ rfl HO3.out _ _ rfl HSL.out (u64_cells _) (by have := HM1.out; unfold maxLen; omega) (by have := HM1.out; omega) (by omega) ?_; intro p5 m5 cap5 w5 hown5 hg5 hb5)
          rw [u64s_len, HCS.out] at hown5
          rw [show u64s (Bsm.posn bs i) ++ u64s (posr (fun j => bs.getD j false) i T) = u64s (Bsm.posn bs (i + T)) by rw [← posn_more]; simp [u64s]] at hown5
          rw [show (Bsm.posn bs i).length + (posr (fun j => bs.getD j false) i T).length = (Bsm.posn bs (i + T)).length by rw [← posn_more, List.length_append]] at hown5
          go_roundg k
          case measure => omega
          case rel => exact ⟨t + 1, i + T, p5, m5, cap5, rfl, by go_num, by go_num, by omega, by omega, htp, hown5, (HBL.out.trans (HB3.out.mono hsz)).trans hb5⟩
  · have HF := Lib.hid (show decide ((m : Int) ≤ 2147483647) = false by simpa using hf)
    clear hf
    go_enter Tryd.func3, Tryd.ntmps3
    go_wp2_with fail
    refine (fits_any _ a m cap _ hmm).mono ?_
    rintro e w1 ⟨rfl, hb1⟩
    rw [HF.out]
    go_wp2_with fail
    go_ret
    exact ⟨rfl, HB0.out.trans (hb1.mono (by simp))⟩
end Go.Proofs.YtbcbkieebelleaaDoor
