/- Walks of impl.set64 and impl.said64. -/
import Derived.Test.YtbcbkieebelleaaBsSet
namespace Go.Proofs.Ytbcbkieebelleaa
set_option linter.unusedVariables false
open Go.RowKit

/-- the loop of set64 -/
def Set64Loop (bs : List Bool) (s : Value) (p : Nat) (w : World) (n k : Nat) (idx : Value) (wr : World) : Prop :=
  ∃ (i : Nat) (ws : List Nat), idx = .int .i64 (i : Int) ∧ i + k = n ∧ Bs (w.heap.size + 1) wr p bs.length ws ((bs.length + 63) / 64) ∧ ws.length = (bs.length + 63) / 64 ∧
    (∀ j, Bsm.bit ws j = decide (j ∈ (Bsm.pos bs).take i)) ∧ Below w.heap.size w wr

set_option maxRecDepth 100000 in
set_option maxHeartbeats 1000000 in
/-- set64 makes a bitset of the bits -/
theorem set64_any (v : Value) (bs : List Bool) (w : World) (hv : IsBits w v bs) (hn : bs.length ≤ 100000) :
    Calls Try.prog 39 #[v] w fun e w' => ∃ (p : Nat) (ws : List Nat), e = .returned (.pointer (some ⟨p, 0, none⟩)) ∧
      Bs w.heap.size w' p bs.length ws ((bs.length + 63) / 64) ∧ ws.length = (bs.length + 63) / 64 ∧ (∀ j, Bsm.bit ws j = bs.getD j false) ∧ Below w.heap.size w w' := by
  obtain ⟨s, rfl, hs⟩ := hv
  obtain ⟨a, n, cap, rfl, hl, hc, hm, hr⟩ := hs
  rw [u64s_len] at hl
  have hpl := Bsm.pos_len_le bs
  have hn1 : n ≤ 100000 := by omega
  have HL := Lib.hid hl
  clear hl hm hpl
  go_enter Try.func39, Try.ntmps39
  go_wp2_with fail
  refine (new_any _ _ (by omega)).mono ?_
  rintro e w1 ⟨p, rfl, hbs, hb1⟩
  have hblk : Blk w1 w.heap.size 25 #[.int .u64 (bs.length : Int), .slice a n cap] := (Blk.new w 25 _).below hb1 (by simp)
  have c1 : w1.cell? ⟨w.heap.size, 1, none⟩ = some (.slice a n cap) := hblk.cell 1 rfl
  rw [World.size_alloc] at hbs
  have hb0 : Below w.heap.size w w1 := ((Below.refl _ _).alloc (Nat.le_refl _) _).trans (hb1.mono (by simp))
  have HB := Lib.hid hbs
  clear hblk hbs
  go_wp2_with fail
  go_loopg [12] n (fun k idx wr => Set64Loop bs (.slice a n cap) p w n k idx wr)
  case atStart => exact ⟨0, _, rfl, by omega, HB.out, by simp, fun j => by rw [Bsm.bit_zeros]; simp, hb0⟩
  case round =>
    obtain ⟨i, ws, rfl, hik, hbs, hwl, hbit, hbel⟩ := hrel
    have HBS := Lib.hid hbs
    have HBIT := Lib.hid hbit
    clear hbs hbit hb0
    by_cases hi : i < n
    · obtain ⟨b, off, rfl, hcell⟩ := hr (by omega)
      have h1 := hcell i _ (u64s_at (Bsm.pos bs) i (by rw [HL.out]; exact hi))
      rw [← hbel.cell (World.block_lt_of_cell? w _ h1)] at h1
      have hp := Bsm.pos_getD_lt bs i (by rw [HL.out]; exact hi)
      have hmem : (Bsm.pos bs).take (i + 1) = (Bsm.pos bs).take i ++ [(Bsm.pos bs).getD i 0] := by
        rw [List.take_succ_eq_append_getElem (by rw [HL.out]; exact hi)]; simp [HL.out, hi]
      obtain ⟨X, hX⟩ : ∃ X, (Bsm.pos bs).getD i 0 = X := ⟨_, rfl⟩
      rw [hX] at h1 hp hmem
      have HM := Lib.hid hmem
      have HWL := Lib.hid hwl
      clear hr hcell hX hmem hwl c1
      cases gk with
      | zero => omega
      | succ k =>
        go_wp2_with fail
        refine (set_in (w.heap.size + 1) p bs.length X ws _ _ HBS.out hp (by rw [HWL.out]; omega) hn).mono ?_
        rintro e w2 ⟨rfl, hbs2, hb2⟩
        go_wp2_with fail
        go_roundg k
        case measure => omega
        case rel => exact ⟨i + 1, Bsm.orw ws X, by go_num, by omega, hbs2, by unfold Bsm.orw; rw [Bsm.upd_len, HWL.out], fun j => by
                      rw [Bsm.bit_orw _ _ (by rw [HWL.out]; omega), HBIT.out, HM.out, Bool.eq_iff_iff]; simp, hbel.trans (hb2.mono (by omega))⟩
    · obtain rfl : i = n := by omega
      clear c1
      go_wp2_with fail
      go_ret
      refine ⟨p, ws, rfl, HBS.out.weaken (by omega), hwl, fun j => ?_, hbel⟩
      rw [HBIT.out, ← HL.out, List.take_length, Bool.eq_iff_iff, decide_eq_true_eq, Bsm.mem_pos]

theorem ownsRow_drewN {w : World} {B : Nat} {e : TypeId} {size : Nat} {v : Value} {n : Nat} {xs : List Value} (h : w.ownsRow B e size v n xs) (nq : Nat) : (w.drewN nq).ownsRow B e size v n xs := h

/-- the loop of said64 -/
def SaidLoop (L : Nat) (ws : List Nat) (w : World) (k : Nat) (idx : Value) (wr : World) : Prop :=
  ∃ (i : Nat) (q : Option Addr) (m cap : Nat), idx = .int .u64 (i : Int) ∧ i + k = L ∧ Blk wr (w.heap.size + 1) 25 #[.int .u64 (L : Int), .slice q m cap] ∧
    Blk wr w.heap.size 25 #[.int .u64 0, .slice none 0 0] ∧
    wr.ownsRow (w.heap.size + 2) 22 1 (.slice q m cap) (Bsm.posn (Bsm.bitsOf ws L) i).length (u64s (Bsm.posn (Bsm.bitsOf ws L) i)) ∧ Below w.heap.size w wr ∧ w.heap.size + 2 ≤ wr.heap.size

set_option maxRecDepth 100000 in
set_option maxHeartbeats 1000000 in
/-- said64 tells the bits of a bitset -/
theorem said64_any (B p L : Nat) (ws : List Nat) (cp : Nat) (w : World) (hb : Bs B w p L ws cp) (hL : L ≤ 64 * ws.length) (hn : L ≤ 100000) :
    Calls Try.prog 41 #[.pointer (some ⟨p, 0, none⟩)] w fun e w' => ∃ v', e = .returned v' ∧ OwnBits w.heap.size w' v' (Bsm.bitsOf ws L) ∧ Below w.heap.size w w' := by
  have HB := Lib.hid hb
  have HL := Lib.hid hL
  clear hb hL
  go_enter Try.func41, Try.ntmps41
  go_wp2_with fail
  refine (len_any B p L ws cp _ ?hb).mono ?_
  case hb => exact HB.out.below (by repeat (first | exact Below.refl _ _ | refine Below.alloc ?_ (by simp) _))
  rintro e w' ⟨rfl, rfl⟩
  go_wp2_with fail
  go_loopg [4] L (fun k idx wr => SaidLoop L ws w k idx wr)
  case atStart =>
    refine ⟨0, none, 0, 0, rfl, by omega, ?_, (Blk.new _ _ _).alloc _, World.ownsRow_nil _ _ _ _, ((Below.refl _ _).alloc (Nat.le_refl _) _).alloc (by simp) _, by simp⟩
    have := Blk.new (w.alloc (.cells #[.int .u64 0, .slice none 0 0] 25)) 25 #[.int .u64 (L : Int), .slice none 0 0]
    simpa using this
  case round =>
    obtain ⟨i, q, m, cap0, rfl, hik, hblk, hres, hown, hbel, hsz⟩ := hrel
    have c0 : wr.cell? ⟨w.heap.size + 1, 0, none⟩ = some (.int .u64 (L : Int)) := hblk.cell 0 rfl
    have c1 : wr.cell? ⟨w.heap.size + 1, 1, none⟩ = some (.slice q m cap0) := hblk.cell 1 rfl
    have f1 := hblk.free 1
    have r0 : wr.cell? ⟨w.heap.size, 0, none⟩ = some (.int .u64 0) := hres.cell 0 rfl
    have r1 : wr.cell? ⟨w.heap.size, 1, none⟩ = some (.slice none 0 0) := hres.cell 1 rfl
    have g0 := hres.free 0
    have g1 := hres.free 1
    have HBK := Lib.hid hblk
    have HRS := Lib.hid hres
    have HO := Lib.hid hown
    clear hblk hres hown
    by_cases hi : i < L
    · have hbg : (Bsm.bitsOf ws L).getD i false = Bsm.bit ws i := by rw [Bsm.bitsOf_get]; simp [hi]
      cases gk with
      | zero => omega
      | succ k =>
        by_cases hbit : Bsm.bit ws i = true
        · have eb : (decide (i < L) && Bsm.bit ws i) = true := by simp [hi, hbit]
          have EB := Lib.hid eb
          rw [hbit] at hbg
          have HBG := Lib.hid hbg
          have hpl := Bsm.posn_len (Bsm.bitsOf ws L) i
          have hm1 : (Bsm.posn (Bsm.bitsOf ws L) i).length + 1 ≤ maxLen := by unfold maxLen; omega
          clear eb hbit hbg
          go_wp2_with fail
          refine (test_any B p L i ws cp _ (HB.out.below hbel) HL.out hn (by omega)).mono ?_
          rintro e w' ⟨rfl, nq, rfl⟩
          rw [EB.out]
          go_wp2_with (at_builtin; refine wpList_append1 rfl _ _ 23 rfl (w.heap.size + 2) 22 (.int .u64 0) 8 Try.underlying23 info_u64 rfl _ (Bsm.posn (Bsm.bitsOf ws L) i).length (u64s (Bsm.posn (Bsm.bitsOf ws L) i)) rfl (ownsRow_drewN HO.out nq) _ rfl rfl hm1 (by omega) hsz ?_; intro g cap1 w1 hown1 hg1 hb1; have d1 : w1.frozen? ⟨w.heap.size + 1, 1, none⟩ = false := (hb1.frozen (by simp)).trans f1; have d2 : w1.cell? ⟨w.heap.size + 1, 1, none⟩ = some (.slice q m cap0) := (hb1.cell (by simp)).trans c1)
          go_roundg k
          case measure => omega
          case rel =>
            have e : Bsm.posn (Bsm.bitsOf ws L) (i + 1) = Bsm.posn (Bsm.bitsOf ws L) i ++ [i] := by simp only [Bsm.posn]; rw [HBG.out]; simp
            have hz : wr.heap.size ≤ w1.heap.size := hb1.size
            refine ⟨i + 1, some ⟨g, 0, none⟩, _, cap1, by go_num, by omega, ((HBK.out.drewN nq).below hb1 (by omega)).set 1 _, ((HRS.out.drewN nq).below hb1 (by omega)).other (by simp) _, ?_, ((below_drewN hbel nq).trans (hb1.mono (by omega))).setCell (by simp) _, by simp; omega⟩
            rw [e, u64s_append, List.length_append]
            exact ownsRow_setCell_below hown1 (by simp) _
        · have hbf : Bsm.bit ws i = false := by simpa using hbit
          have eb : (decide (i < L) && Bsm.bit ws i) = false := by simp [hbf]
          have EB := Lib.hid eb
          rw [hbf] at hbg
          have HBG := Lib.hid hbg
          clear eb hbit hbf hbg
          go_wp2_with fail
          refine (test_any B p L i ws cp _ (HB.out.below hbel) HL.out hn (by omega)).mono ?_
          rintro e w' ⟨rfl, nq, rfl⟩
          rw [EB.out]
          go_wp2_with fail
          go_roundg k
          case measure => omega
          case rel =>
            have e : Bsm.posn (Bsm.bitsOf ws L) (i + 1) = Bsm.posn (Bsm.bitsOf ws L) i := by simp only [Bsm.posn]; rw [HBG.out]; simp
            exact ⟨i + 1, q, m, cap0, by go_num, by omega, HBK.out.drewN nq, HRS.out.drewN nq, by rw [e]; exact ownsRow_drewN HO.out nq, below_drewN hbel nq, hsz⟩
    · obtain rfl : i = L := by omega
      go_wp2_with fail
      refine bodyPost_ret (v := .agg #[.int .u64 (i : Int), .slice q m cap0]) (by simp [results, Try.results41, go_sem, *]) rfl ?_
      have ho := ownsRow_setCell_below (ownsRow_setCell_below HO.out (a := ⟨w.heap.size, 0, none⟩) (by simp) (.int .u64 (i : Int))) (a := ⟨w.heap.size, 1, none⟩) (by simp) (.slice q m cap0)
      have e : Bsm.pos (Bsm.bitsOf ws i) = Bsm.posn (Bsm.bitsOf ws i) i := by unfold Bsm.pos; rw [Bsm.bitsOf_len]
      refine ⟨_, rfl, ⟨_, _, _, by rw [Bsm.bitsOf_len], ?_⟩, ?_⟩
      · rw [e]; exact ownsRow_weaken ho (by omega)
      · exact (hbel.setCell (Nat.le_refl _) _).setCell (Nat.le_refl _) _
end Go.Proofs.Ytbcbkieebelleaa
