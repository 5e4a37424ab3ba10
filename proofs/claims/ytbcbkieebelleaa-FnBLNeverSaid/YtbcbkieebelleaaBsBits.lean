/- The walk of laws.bsBits: some bitset of at most 400 bits. -/
import Derived.Test.YtbcbkieebelleaaBsPut
namespace Go.Proofs.Ytbcbkieebelleaa
set_option linter.unusedVariables false
open Go.RowKit

/-- an impl.Bits that came in: any length, any places -/
def AnyBits (w : World) (v : Value) : Prop := ∃ (L : Nat) (s : Value) (xs : List Nat), v = .agg #[.int .u64 (L : Int), s] ∧ L < 18446744073709551616 ∧ Sl w s (u64s xs) ∧ ∀ x ∈ xs, x < 18446744073709551616

theorem AnyBits.below {w w' : World} {v : Value} {B : Nat} (h : AnyBits w v) (hB : B = w.heap.size) (hb : Below B w w') : AnyBits w' v := by
  obtain ⟨L, s, xs, rfl, h1, h2, h3⟩ := h
  exact ⟨L, s, xs, rfl, h1, h2.below hB hb, h3⟩

def BitsLoop (n : Nat) (L : Nat) (s : Value) (w : World) (k : Nat) (idx : Value) (wr : World) : Prop :=
  ∃ (i : Nat) (bs : List Bool), idx = .int .i64 (i : Int) ∧ i + k = 1000 ∧ bs.length = n ∧ Blk wr w.heap.size 25 #[.int .u64 (L : Int), s] ∧
    Blk wr (w.heap.size + 1) 25 #[.int .u64 0, .slice none 0 0] ∧
    wr.ownsRow (w.heap.size + 2) 4 1 (.slice (some ⟨w.heap.size + 1 + 1, 0, none⟩) n n) n (bools bs) ∧ Below w.heap.size w wr ∧ w.heap.size + 2 ≤ wr.heap.size

theorem bools_set (bs : List Bool) (i : Nat) (b : Bool) : (bools bs).set i (.bool b) = bools (bs.set i b) := by simp [bools, List.map_set]

set_option maxRecDepth 100000 in
set_option maxHeartbeats 1000000 in
theorem bits_any (v : Value) (w : World) (hv : AnyBits w v) :
    Calls Try.prog 12 #[v] w fun e w' => ∃ (v' : Value) (bs : List Bool), e = .returned v' ∧ bs.length ≤ 400 ∧ OwnBits w.heap.size w' v' bs ∧ Below w.heap.size w w' := by
  obtain ⟨L, s, xs, rfl, hL, hs, hx⟩ := hv
  obtain ⟨a, m, cap, rfl, hl, hc, hm, hr⟩ := hs
  rw [u64s_len] at hl
  have HL := Lib.hid hl
  have HX := Lib.hid hx
  obtain ⟨n, hn⟩ : ∃ n : Nat, n = L % 401 := ⟨_, rfl⟩
  have hn2 : n ≤ 400 := by omega
  have hn3 : (L : Int) % 401 = (n : Int) := by omega
  have hm2 : (m : Int) ≤ 9223372036854775807 := by unfold maxLen at hm; omega
  clear hl hx hL hn hm hc
  go_enter Try.func12, Try.ntmps12
  go_wp2_with (at_make; refine wpList_make1 rfl _ _ 32 rfl (w.heap.size + 2) 4 (.bool false) 1 Try.underlying32 info_bool rfl _ _ _ _ n rfl rfl (by first | rfl | exact hn3) (by first | rfl | exact hn3) (by omega) (by unfold maxLen; omega) (by simp) ?_; intro w1 hown1 hb1 hs1)
  have hblk0 : Blk w1 w.heap.size 25 #[.int .u64 (L : Int), .slice a m cap] := ((Blk.new w 25 _).alloc _).below hb1 (by simp; omega)
  have hres0 : Blk w1 (w.heap.size + 1) 25 #[.int .u64 0, .slice none 0 0] := by
    have h := (Blk.new (w.alloc (.cells #[.int .u64 (L : Int), .slice a m cap] 25)) 25 #[.int .u64 0, .slice none 0 0]).below hb1 (by simp)
    simpa using h
  have hb0 : Below w.heap.size w w1 := (((Below.refl _ _).alloc (Nat.le_refl _) _).alloc (by simp) _).trans (hb1.mono (by simp; omega))
  have hsz1 : w.heap.size + 2 ≤ w1.heap.size := by have := hb1.size; simp at this; omega
  simp only [World.size_alloc] at hown1
  go_loopg [4] 1000 (fun k idx wr => BitsLoop n L (.slice a m cap) w k idx wr)
  case atStart => exact ⟨0, List.replicate n false, rfl, by omega, by simp, hblk0, hres0, by simpa [bools] using hown1, hb0, hsz1⟩
  case round =>
    obtain ⟨i, bs, rfl, hik, hbl, hblk, hres, hown, hbel, hsz⟩ := hrel
    clear hown1 hb1 hs1 hblk0 hb0 hres0 hsz1
    have c1 : wr.cell? ⟨w.heap.size, 1, none⟩ = some (.slice a m cap) := hblk.cell 1 rfl
    have r0 : wr.cell? ⟨w.heap.size + 1, 0, none⟩ = some (.int .u64 0) := hres.cell 0 rfl
    have r1 : wr.cell? ⟨w.heap.size + 1, 1, none⟩ = some (.slice none 0 0) := hres.cell 1 rfl
    have g0 := hres.free 0
    have g1 := hres.free 1
    have HBK := Lib.hid hblk
    have HRS := Lib.hid hres
    have HO := Lib.hid hown
    have HBL := Lib.hid hbl
    clear hblk hres hown hbl
    by_cases hi : i < m ∧ i < 1000 ∧ 0 < n
    · obtain ⟨hi1, hi2, hi3⟩ := hi
      obtain ⟨b, off, rfl, hcell⟩ := hr (by omega)
      have h1 := hcell i _ (u64s_at xs i (by rw [HL.out]; exact hi1))
      rw [← hbel.cell (World.block_lt_of_cell? w _ h1)] at h1
      have hx : xs.getD i 0 < 18446744073709551616 := HX.out _ (by rw [List.getD_eq_getElem?_getD]; simp [HL.out, hi1])
      obtain ⟨X, hX⟩ : ∃ X, xs.getD i 0 = X := ⟨_, rfl⟩
      rw [hX] at h1 hx
      obtain ⟨Y, hY⟩ : ∃ Y, X % n = Y := ⟨_, rfl⟩
      have hYn : Y < n := by rw [← hY]; exact Nat.mod_lt _ hi3
      have hYi : (X : Int) % (n : Int) = (Y : Int) := by rw [← hY, Int.natCast_emod]
      have h2 := HO.out.cellAt Y (by omega)
      rw [bools_at _ _ (by rw [HBL.out]; exact hYn)] at h2
      have h3 := HO.out.frozenAt Y
      have h4 := (HO.out.stored Y (.bool true)).1
      rw [bools_set] at h4
      have H4 := Lib.hid h4
      clear hr hcell hX hY h4 hx
      cases gk with
      | zero => omega
      | succ k =>
        go_wp2_with fail
        go_roundg k
        case measure => omega
        case rel => exact ⟨i + 1, bs.set Y true, by go_num, by omega, by simp [HBL.out], HBK.out.other (by simp; omega) _, HRS.out.other (by simp) _, H4.out, hbel.setCell (by simp; omega) _, by simp; omega⟩
    · have hout : ¬ i < m ∨ (i < m ∧ ¬ i < 1000) ∨ (i < m ∧ i < 1000 ∧ n = 0) := by omega
      clear hi hik
      have hsl := Sl.of_owns HO.out
      rcases hout with hq | ⟨hq1, hq2⟩ | ⟨hq1, hq2, rfl⟩
      all_goals
        go_wp2_with fail
        refine (make_any _ bs _ hsl (by rw [HBL.out]; omega)).mono ?_
        rintro e w2 ⟨v', rfl, hbits, hb2⟩
        have hbl2 := hbits
        obtain ⟨p', k', c', rfl, hs'⟩ := hbl2
        have HRS2 := HRS.out.below hb2 (by omega)
        have q0 : w2.cell? ⟨w.heap.size + 1, 0, none⟩ = some (.int .u64 0) := HRS2.cell 0 rfl
        have q1 : w2.cell? ⟨w.heap.size + 1, 1, none⟩ = some (.slice none 0 0) := HRS2.cell 1 rfl
        have z0 := HRS2.free 0
        have z1 := HRS2.free 1
        have hz2 := hb2.size
        have HBT := Lib.hid hbits
        have HSL := Lib.hid hs'
        clear hbits hs' r0 r1 g0 g1 c1 hsl HRS2
        go_wp2_with fail
        refine bodyPost_ret (v := .agg #[.int .u64 (bs.length : Int), .slice p' k' c']) (by simp [results, Try.results12, go_sem, *]) rfl ?_
        refine ⟨_, bs, rfl, by rw [HBL.out]; omega, ?_, ((hbel.trans (hb2.mono (by omega))).setCell (by simp) _).setCell (by simp) _⟩
        exact ((HBT.out.set (by simp; omega) _).set (by simp; omega) _).weaken (by omega)
end Go.Proofs.Ytbcbkieebelleaa
