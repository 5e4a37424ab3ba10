/- Walks of impl.set64 and impl.said64. -/
import Derived.Test.YtbcbkieebelleaaDoorBsSet
namespace Go.Proofs.YtbcbkieebelleaaDoor
set_option linter.unusedVariables false
open Go.RowKit

/-- the loop of set64 -/
def Set64Loop (bs : List Bool) (s : Value) (p : Nat) (w : World) (n k : Nat) (idx : Value) (wr : World) : Prop :=
  ∃ (i : Nat) (ws : List Nat), idx = .int .i64 (i : Int) ∧ i + k = n ∧ Bs (w.heap.size + 1) wr p bs.length ws ((bs.length + 63) / 64) ∧ ws.length = (bs.length + 63) / 64 ∧
    (∀ j, Bsm.bit ws j = decide (j ∈ (Bsm.pos bs).take i)) ∧ Below w.heap.size w wr

set_option maxRecDepth 100000 in
set_option maxHeartbeats 1000000 in
/-- set64 makes a bitset of the bits -/
theorem set64_any (v : Value) (bs : List Bool) (w : World) (hv : IsBits w v bs) (hn : bs.length ≤ 100000) :
    Calls Tryd.prog 14 #[v] w fun e w' => ∃ (p : Nat) (ws : List Nat), e = .returned (.pointer (some ⟨p, 0, none⟩)) ∧
      Bs w.heap.size w' p bs.length ws ((bs.length + 63) / 64) ∧ ws.length = (bs.length + 63) / 64 ∧ (∀ j, Bsm.bit ws j = bs.getD j false) ∧ Below w.heap.size w w' := by
  obtain ⟨s, rfl, hs⟩ := hv
  obtain ⟨a, n, cap, rfl, hl, hc, hm, hr⟩ := hs
  rw [u64s_len] at hl
  have hpl := Bsm.pos_len_le bs
  have hn1 : n ≤ 100000 := by omega
  have HL := Lib.hid hl
  clear hl hm hpl
  go_enter Tryd.func14, Tryd.ntmps14
  go_wp2_with fail
  refine (new_any _ _ (by omega)).mono ?_
  rintro e w1 ⟨p, rfl, hbs, hb1⟩
  have hblk : Blk w1 w.heap.size 25 #[.int .u64 (bs.length : Int), .slice a n cap] := (Blk.new w 25 _).below hb1 (by simp)
  have c1 : w1.cell? ⟨w.heap.size, 1, none⟩ = some (.slice a n cap) := hblk.cell 1 rfl
  rw [World.size_alloc] at hbs
  have hb0 : Below w.heap.size w w1 := ((Below.refl _ _).alloc (Nat.le_refl _) _).trans (hb1.mono (by simp))
  have HB := Lib.hid hbs
  clear hblk hbs
  go_wp2_with fail
  go_loopg [12] n (fun k idx wr => Set64Loop bs (.slice a n cap) p w n k idx wr)
  case atStart => exact ⟨0, _, rfl, by omega, HB.out, by simp, fun j => by rw [Bsm.bit_zeros]; simp, hb0⟩
  case round =>
    obtain ⟨i, ws, rfl, hik, hbs, hwl, hbit, hbel⟩ := hrel
    have HBS := Lib.hid hbs
    have HBIT := Lib.hid hbit
    clear hbs hbit hb0
    by_cases hi : i < n
    · obtain ⟨b, off, rfl, hcell⟩ := hr (by omega)
      have h1 := hcell i _ (u64s_at (Bsm.pos bs) i (by rw [HL.out]; exact hi))
      rw [← hbel.cell (World.block_lt_of_cell? w _ h1)] at h1
      have hp := Bsm.pos_getD_lt bs i (by rw [HL.out]; exact hi)
      have hmem : (Bsm.pos bs).take (i + 1) = (Bsm.pos bs).take i ++ [(Bsm.pos bs).getD i 0] := by
        rw [List.take_succ_eq_append_getElem (by rw [HL.out]; exact hi)]; simp [HL.out, hi]
      obtain ⟨X, hX⟩ : ∃ X, (Bsm.pos bs).getD i 0 = X := ⟨_, rfl⟩
      rw [hX] at h1 hp hmem
      have HM := Lib.hid hmem
      have HWL := Lib.hid hwl
      clear hr hcell hX hmem hwl c1
      cases gk with
      | zero => omega
      | succ k =>
        go_wp2_with fail
        refine (set_in (w.heap.size + 1) p bs.length X ws _ _ HBS.out hp (by rw [HWL.out]; omega) hn).mono ?_
        rintro e w2 ⟨rfl, hbs2, hb2⟩
        go_wp2_with fail
        go_roundg k
        case measure => omega
        case rel => exact ⟨i + 1, Bsm.orw ws X, by go_num, by omega, hbs2, by unfold Bsm.orw; rw [Bsm.upd_len, HWL.out], fun j => by
                      rw [Bsm.bit_orw _ _ (by rw [HWL.out]; omega), HBIT.out, HM.out, Bool.eq_iff_iff]; simp, hbel.trans (hb2.mono (by omega))⟩
    · obtain rfl : i = n := by omega
      clear c1
      go_wp2_with fail
      go_ret
      refine ⟨p, ws, rfl, HBS.out.weaken (by omega), hwl, fun j => ?_, hbel⟩
      rw [HBIT.out, ← HL.out, List.take_length, Bool.eq_iff_iff, decide_eq_true_eq, Bsm.mem_pos]

theorem ownsRow_drewN {w : World} {B : Nat} {e : TypeId} {size : Nat} {v : Value} {n : Nat} {xs : List Value} (h : w.ownsRow B e size v n xs) (nq : Nat) : (w.drewN nq).ownsRow B e size v n xs := h

/-- the loop of said64 -/
def SaidLoop (L : Nat) (ws : List Nat) (w : World) (k : Nat) (idx : Value) (wr : World) : Prop :=
  ∃ (i : Nat) (q : Option Addr) (m cap : Nat), idx = .int .u64 (i : Int) ∧ i + k = L ∧ Blk wr (w.heap.size + 1) 25 #[.int .u64 (L : Int), .slice q m cap] ∧
    Blk wr w.heap.size 25 #[.int .u64 0, .slice none 0 0] ∧
    wr.ownsRow (w.heap.size + 2) 22 1 (.slice q m cap) (Bsm.posn (Bsm.bitsOf ws L) i).length (u64s (Bsm.posn (Bsm.bitsOf ws L) i)) ∧ Below w.heap.size w wr ∧ w.heap.size + 2 ≤ wr.heap.size

end Go.Proofs.YtbcbkieebelleaaDoor
