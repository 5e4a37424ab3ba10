/- Walks of spec.BSBools, spec.BSGrow, spec.BSPut and laws.bsBits. -/
import Derived.Test.YtbcbkieebelleaaBsSpec
namespace Go.Proofs.Ytbcbkieebelleaa
set_option linter.unusedVariables false
open Go.RowKit

theorem ownsRow_len {w : World} {B : Nat} {e : TypeId} {size : Nat} {p : Option Addr} {m cap n : Nat} {xs : List Value} (h : w.ownsRow B e size (.slice p m cap) n xs) : m = n := by
  rcases h.2 with ⟨h2, h3⟩ | ⟨g, cap, cur, hv, _⟩
  · simp at h2; omega
  · simp at hv; omega
theorem bools_snoc (bs : List Bool) (i : Nat) : bools (bs ++ List.replicate i false) ++ [.bool false] = bools (bs ++ List.replicate (i + 1) false) := by
  simp [bools, List.replicate_succ']
theorem bool_cells (bs : List Bool) : ∀ u ∈ bools bs, u.oneCell' = true := by
  intro u hu
  obtain ⟨x, _, rfl⟩ := List.mem_map.1 hu
  rfl

/-- the loop of BSBools -/
def BoolsRel (bs : List Bool) (s : Value) (w : World) (L n k : Nat) (idx : Value) (wr : World) : Prop :=
  ∃ (i : Nat), idx = .int .i64 (i : Int) ∧ i + k = n ∧ Blk wr w.heap.size 25 #[.int .u64 (L : Int), s] ∧
    wr.ownsRow (w.heap.size + 1) 4 1 (.slice (some ⟨w.heap.size + 1, 0, none⟩) L L) L (bools (Bsm.fill L (Bsm.pos bs) i)) ∧ Below w.heap.size w wr

set_option maxHeartbeats 1000000 in
theorem bools_any (v : Value) (bs : List Bool) (w : World) (hv : IsBits w v bs) (hn : bs.length ≤ 1000000) :
    Calls Try.prog 16 #[v] w fun e w' => ∃ v', e = .returned v' ∧ w'.ownsRow w.heap.size 4 1 v' bs.length (bools bs) ∧ Below w.heap.size w w' := by
  obtain ⟨s, rfl, hs⟩ := hv
  obtain ⟨a, n, cap, rfl, hl, hc, hm, hr⟩ := hs
  rw [u64s_len] at hl
  obtain ⟨L, hLL⟩ : ∃ L, bs.length = L := ⟨_, rfl⟩
  rw [hLL]
  have hpl := Bsm.pos_len_le bs
  have hn1 : n ≤ 1000000 := by omega
  have hL1 : L ≤ 1000000 := by omega
  have HL := Lib.hid hl
  have HLL := Lib.hid hLL
  clear hl hLL hm hn hpl
  go_enter Try.func16, Try.ntmps16
  go_wp2_with (at_make; refine wpList_make1 rfl _ _ 32 rfl (w.heap.size + 1) 4 (.bool false) 1 Try.underlying32 info_bool rfl _ _ _ _ L rfl rfl rfl rfl (by omega) (by unfold maxLen; omega) (by simp) ?_; intro w1 hown1 hb1 hs1)
  have hblk0 : Blk w1 w.heap.size 25 #[.int .u64 (L : Int), .slice a n cap] := (Blk.new w 25 _).below hb1 (by simp)
  have hb0 : Below w.heap.size w w1 := ((Below.refl _ _).alloc (Nat.le_refl _) _).trans (hb1.mono (by simp))
  simp only [World.size_alloc] at hown1
  go_loopg [4] n (fun k idx wr => BoolsRel bs (.slice a n cap) w L n k idx wr)
  case atStart => exact ⟨0, rfl, by omega, hblk0, by simpa [bools, Bsm.fill] using hown1, hb0⟩
  case round =>
    obtain ⟨i, rfl, hik, hblk, hown, hbel⟩ := hrel
    clear hown1 hb1 hs1 hblk0 hb0
    have c1 : wr.cell? ⟨w.heap.size, 1, none⟩ = some (.slice a n cap) := hblk.cell 1 rfl
    have HBK := Lib.hid hblk
    have HO := Lib.hid hown
    clear hblk hown
    by_cases hi : i < n
    · obtain ⟨b, off, rfl, hcell⟩ := hr (by omega)
      have h1 := hcell i _ (u64s_at (Bsm.pos bs) i (by rw [HL.out]; exact hi))
      rw [← hbel.cell (World.block_lt_of_cell? w _ h1)] at h1
      have hpl := Bsm.pos_getD_lt bs i (by rw [HL.out]; exact hi)
      rw [HLL.out] at hpl
      obtain ⟨X, hX⟩ : ∃ X, (Bsm.pos bs).getD i 0 = X := ⟨_, rfl⟩
      rw [hX] at h1 hpl
      have h2 := HO.out.cellAt X (by omega)
      rw [bools_at _ _ (by rw [Bsm.fill_len]; exact hpl)] at h2
      have h3 := HO.out.frozenAt X
      have h4 := HO.out.stored X (.bool true)
      have H4 := Lib.hid h4
      have HX := Lib.hid hX
      clear hr hcell hX h4
      cases gk with
      | zero => omega
      | succ k =>
        go_wp2_with fail
        go_roundg k
        case measure => omega
        case rel =>
          have e : bools (Bsm.fill L (Bsm.pos bs) (i + 1)) = (bools (Bsm.fill L (Bsm.pos bs) i)).set X (.bool true) := by
            simp only [Bsm.fill]; rw [HX.out]; simp [bools, List.map_set]
          exact ⟨i + 1, by go_num, by omega, HBK.out.other (by simp) _, by rw [e]; exact H4.out.1, hbel.setCell (by simp) _⟩
    · obtain rfl : i = n := by omega
      go_wp2_with fail
      go_ret
      have e : Bsm.fill L (Bsm.pos bs) i = bs := by rw [← HL.out, ← HLL.out]; exact Bsm.fill_pos bs
      have ho := HO.out
      rw [e] at ho
      exact ⟨_, rfl, ownsRow_weaken ho (by omega), hbel⟩

/-- the loop of BSGrow -/
def GrowRel (bs : List Bool) (n l : Nat) (w : World) (k : Nat) (sv : Value) (wr : World) : Prop :=
  ∃ (i : Nat) (p : Option Addr) (cap : Nat), sv = .slice p (l + i) cap ∧ n - (l + i) = k ∧ (i ≠ 0 → l + i ≤ n) ∧
    wr.ownsRow w.heap.size 4 1 (.slice p (l + i) cap) (l + i) (bools (bs ++ List.replicate i false)) ∧ Below w.heap.size w wr ∧ w.heap.size ≤ wr.heap.size

/-- 'BSPut' where it grows if it has to (how is 1 or 2), and where it does not (how is 0) -/
def putAt (how : Nat) (b : List Bool) (i : Nat) : Bool := how == 1 || (how == 2 && !(b.getD i false))
def put (how : Nat) (b : List Bool) (f : Nat) : Nat → List Bool
  | 0 => b
  | k + 1 => (put how b f k).set (f + k) (putAt how b (f + k))

theorem put_len (how : Nat) (b : List Bool) (f k : Nat) : (put how b f k).length = b.length := by
  induction k with
  | zero => rfl
  | succ k ih => simp [put, ih]

/-- the loop of BSPut over b from f: i rounds are done -/
def PutRel (how : Nat) (b : List Bool) (f top : Nat) (g : Nat) (cap : Nat) (w0 : World) (B : Nat) (k : Nat) (idx : Value) (wr : World) : Prop :=
  ∃ i : Nat, idx = .int .i64 ((f + i : Nat) : Int) ∧ f + i + k = max f top ∧
    wr.ownsRow B 4 1 (.slice (some ⟨g, 0, none⟩) b.length cap) b.length (bools (put how b f i)) ∧ Below B w0 wr

end Go.Proofs.Ytbcbkieebelleaa
