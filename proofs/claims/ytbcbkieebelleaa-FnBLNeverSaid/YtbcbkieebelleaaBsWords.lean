/- Walks of impl.words, (*BitSet).Words, spec.BLBits, FromWithLength, impl.BSWords and impl.BSFromWithLength. -/
import Derived.Test.YtbcbkieebelleaaBsFlip
import Derived.Outline
namespace Go.Proofs.Ytbcbkieebelleaa
set_option linter.unusedVariables false
open Go.RowKit

set_option maxHeartbeats 400000 in
theorem words_any (v : Value) (ws : List Nat) (w : World) (hv : Sl w v (u64s ws)) (hn : ws.length ≤ 1000000) :
    Calls Try.prog 63 #[v] w fun e w' => ∃ v', e = .returned v' ∧ w'.ownsRow w.heap.size 52 1 v' ws.length (u64s ws) ∧ Below w.heap.size w w' := by
  have hvv : ∃ a n cap, v = .slice a n cap := by obtain ⟨a, n, cap, rfl, _⟩ := hv; exact ⟨a, n, cap, rfl⟩
  obtain ⟨a, m, cap, rfl⟩ := hvv
  have HV := Lib.hid hv
  have HBL := Lib.hid (u64s_len ws)
  clear hv
  go_enter Try.func63, Try.ntmps63
  go_wp2_with (at_builtin; refine wpList_appendSl rfl _ _ 37 37 rfl w.heap.size 52 52 (.int .u64 0) 8 Try.underlying37 Try.underlying37 info_w64 rfl _ 0 [] rfl (World.ownsRow_nil _ _ _ _) _ _ rfl HV.out (u64_cells _) (by rw [HBL.out]; unfold maxLen; omega) (by rw [HBL.out]; omega) (Nat.le_refl _) ?_; intro p1 m1 cap1 w1 hown1 _ hb1)
  go_ret
  rw [HBL.out, Nat.zero_add, List.nil_append] at hown1
  exact ⟨_, rfl, hown1, hb1⟩

set_option maxHeartbeats 400000 in
theorem wordsof_any (B p L : Nat) (ws : List Nat) (cap : Nat) (w : World) (hb : Bs B w p L ws cap) :
    Calls Try.prog 65 #[.pointer (some ⟨p, 0, none⟩)] w fun e w' => ∃ g, e = .returned (.slice (some ⟨g, 0, none⟩) ws.length cap) ∧ w.ownsRow B 52 1 (.slice (some ⟨g, 0, none⟩) ws.length cap) ws.length (u64s ws) ∧ w = w' := by
  obtain ⟨g, h1, h2, h3, h4, h5⟩ := hb
  have c1 : w.cell? ⟨p, 1, none⟩ = some (.slice (some ⟨g, 0, none⟩) ws.length cap) := h3.cell 1 rfl
  have H4 := Lib.hid h4
  clear h1 h2 h3 h4 h5
  go_enter Try.func65, Try.ntmps65
  go_wp2_with fail
  go_ret
  exact ⟨g, rfl, H4.out, rfl⟩

/-- the loop of BLBits -/
def BlLoop (M : Nat) (K : Int) (s : Value) (ws : List Nat) (w : World) (k : Nat) (out idx : Value) (wr : World) : Prop :=
  ∃ (i : Nat) (p : Option Addr) (m cap : Nat), out = .slice p m cap ∧ idx = .int .u64 (i : Int) ∧ i + k = M ∧ Blk wr w.heap.size 39 #[.int .u64 (M : Int), .int .u64 K, s] ∧
    wr.ownsRow (w.heap.size + 1) 4 1 (.slice p m cap) i (bools (Bsm.bitsOf ws i)) ∧ Below w.heap.size w wr ∧ w.heap.size + 1 ≤ wr.heap.size

theorem bools_app (l : List Bool) (x : Bool) : bools (l ++ [x]) = bools l ++ [.bool x] := by simp [bools]
theorem shr_bit (X s : Nat) (hX : X < 18446744073709551616) : (bits BinOp.and IntKind.u64 ((X : Int) / 2 ^ s) 1 == 1) = X.testBit s := by
  have h1 : ((X : Int) / 2 ^ s) = ((X / 2 ^ s : Nat) : Int) := by push_cast; rfl
  have h2 : X / 2 ^ s < 18446744073709551616 := Nat.lt_of_le_of_lt (Nat.div_le_self _ _) hX
  rw [h1]
  have := u64_and_nat (X / 2 ^ s) 1 (by omega) (by omega)
  rw [show ((1 : Nat) : Int) = 1 from rfl] at this
  rw [this, Nat.and_one_is_mod, Nat.testBit_eq_decide_div_mod_eq]
  generalize X / 2 ^ s = Y
  rw [Bool.eq_iff_iff, beq_iff_eq, decide_eq_true_eq]
  omega
set_option maxRecDepth 100000 in
theorem run_slice_to (a : Option Addr) (n cap m : Nat) (k : IntKind) (h : Int) (hh : h = (m : Int)) (hm : m ≤ cap) (W : World) :
    (Instr.slice 37 (.slice a n cap) none (some (.int k h)) none).run Try.prog W = .ok (.slice a m cap) W := by
  subst hh
  rw [run_slice_h (P := Try.prog) (t := 37) (a := a) (len := n) (cap := cap) (ht := Try.underlying37) (kh := k) (h := (m : Int)) (h0 := by omega) (h2 := by omega)]
  have e0 : ∀ p : Addr, p.add 0 = p := fun p => by cases p; simp [Addr.add]
  have es : ((sizeOf (Try.prog.elem 37)).run Try.prog W) = .ok 1 W := by kernel_rfl
  rw [es]
  simp [Result.andThen, sliced]
  intro _
  cases a <;> simp [e0]
theorem Bsm.posn_past (bs : List Bool) (m : Nat) : Bsm.posn bs (bs.length + m) = Bsm.pos bs := by
  induction m with
  | zero => rfl
  | succ m ih =>
    rw [← Nat.add_assoc]
    simp only [Bsm.posn]
    rw [ih, Bsm.getD_out bs (bs.length + m) (by omega)]
    simp
theorem Bsm.pos_ext (bs cs : List Bool) (h : ∀ j, bs.getD j false = cs.getD j false) : Bsm.pos bs = Bsm.pos cs := by
  rw [← Bsm.posn_past bs cs.length, ← Bsm.posn_past cs bs.length, Nat.add_comm cs.length]
  exact Bsm.posn_congr _ _ _ fun j _ => h j
theorem bitsOf_succ (ws : List Nat) (i : Nat) : Bsm.bitsOf ws (i + 1) = Bsm.bitsOf ws i ++ [Bsm.bit ws i] := by
  unfold Bsm.bitsOf; rw [List.range_succ, List.map_append]; rfl

set_option maxRecDepth 100000 in
set_option maxHeartbeats 1000000 in
theorem blbits_any (M : Nat) (I : Int) (hI : I = (M : Int)) (K : Int) (s : Value) (ws : List Nat) (w : World) (hv : Sl w s (u64s ws)) (hx : ∀ x ∈ ws, x < 18446744073709551616) (hM : M ≤ 100000) :
    Calls Try.prog 24 #[.agg #[.int .u64 I, .int .u64 K, s]] w fun e w' => ∃ v', e = .returned v' ∧ w'.ownsRow w.heap.size 4 1 v' M (bools (Bsm.bitsOf ws M)) ∧ Below w.heap.size w w' := by
  subst hI
  obtain ⟨a, n, cap, rfl, hl, hc, hm, hr⟩ := hv
  rw [u64s_len] at hl
  have hn64 : (n : Int) ≤ 9223372036854775807 := by unfold maxLen at hm; omega
  have HL := Lib.hid hl
  have HX := Lib.hid hx
  clear hl hm hx
  go_enter Try.func24, Try.ntmps24
  go_wp2_with fail
  go_loopg [3, 4] M (fun k out idx wr => BlLoop M K (.slice a n cap) ws w k out idx wr)
  case atStart => exact ⟨0, none, 0, 0, rfl, rfl, by omega, Blk.new _ _ _, World.ownsRow_nil _ _ _ _, (Below.refl _ _).alloc (Nat.le_refl _) _, by simp⟩
  case round =>
    obtain ⟨i, p, m, cap0, rfl, rfl, hik, hblk, hown, hbel, hsz⟩ := hrel
    have c0 : wr.cell? ⟨w.heap.size, 0, none⟩ = some (.int .u64 (M : Int)) := hblk.cell 0 rfl
    have c2 : wr.cell? ⟨w.heap.size, 2, none⟩ = some (.slice a n cap) := hblk.cell 2 rfl
    have HBK := Lib.hid hblk
    have HO := Lib.hid hown
    clear hblk hown
    by_cases hi : i < M
    · cases gk with
      | zero => omega
      | succ k =>
        have hm1 : i + 1 ≤ maxLen := by unfold maxLen; omega
        by_cases hq : i / 64 < n
        · obtain ⟨b, off, rfl, hcell⟩ := hr (by omega)
          have h1 := hcell (i / 64) _ (u64s_at ws (i / 64) (by rw [HL.out]; exact hq))
          rw [← hbel.cell (World.block_lt_of_cell? w _ h1)] at h1
          have hXl : ws.getD (i / 64) 0 < 18446744073709551616 := HX.out _ (by
            rw [List.getD_eq_getElem?_getD, List.getElem?_eq_getElem (by rw [HL.out]; exact hq)]; simp)
          have hbit : Bsm.bit ws i = (ws.getD (i / 64) 0).testBit (i % 64) := rfl
          obtain ⟨X, hX⟩ : ∃ X, ws.getD (i / 64) 0 = X := ⟨_, rfl⟩
          obtain ⟨q, hqq⟩ : ∃ q, i / 64 = q := ⟨_, rfl⟩
          rw [hX] at h1 hXl hbit
          rw [hqq] at h1 hq
          have hqi : (i : Int) / 64 = (q : Int) := by omega
          have HBIT := Lib.hid hbit
          clear hr hcell hX hbit hqq
          go_wp2_with (at_builtin; refine wpList_append1 rfl _ _ 32 rfl (w.heap.size + 1) 4 (.bool false) 1 Try.underlying32 info_bool rfl _ i (bools (Bsm.bitsOf ws i)) rfl HO.out _ rfl rfl hm1 (by omega) hsz ?_; intro g cap1 w1 hown1 hg1 hb1)
          go_roundg k
          case measure => omega
          case rel =>
            rw [shr_bit X (i % 64) hXl, ← HBIT.out] at hown1
            refine ⟨i + 1, some ⟨g, 0, none⟩, _, cap1, rfl, by go_num, by omega, HBK.out.below hb1 (by omega), ?_, hbel.trans (hb1.mono (by omega)), by have := hb1.size; omega⟩
            rw [bitsOf_succ, bools_app]
            exact hown1
        · have hbit : Bsm.bit ws i = false := by unfold Bsm.bit; rw [List.getD_eq_getElem?_getD, List.getElem?_eq_none (by rw [HL.out]; omega)]; simp
          have hg : decide ((i : Int) / 64 < (n : Int)) = false := by simp; omega
          have HBIT := Lib.hid hbit
          clear hr hbit
          go_wp2_with (at_builtin; refine wpList_append1 rfl _ _ 32 rfl (w.heap.size + 1) 4 (.bool false) 1 Try.underlying32 info_bool rfl _ i (bools (Bsm.bitsOf ws i)) rfl HO.out _ rfl rfl hm1 (by omega) hsz ?_; intro g cap1 w1 hown1 hg1 hb1)
          go_roundg k
          case measure => omega
          case rel =>
            rw [← HBIT.out] at hown1
            refine ⟨i + 1, some ⟨g, 0, none⟩, _, cap1, rfl, by go_num, by omega, HBK.out.below hb1 (by omega), ?_, hbel.trans (hb1.mono (by omega)), by have := hb1.size; omega⟩
            rw [bitsOf_succ, bools_app]
            exact hown1
    · obtain rfl : i = M := by omega
      go_wp2_with fail
      go_ret
      exact ⟨_, rfl, ownsRow_weaken HO.out (by omega), hbel⟩

set_option maxHeartbeats 400000 in
theorem fromlen_any (L : Nat) (a : Option Addr) (n cap : Nat) (w : World) (hL : L ≤ 100000) (hn : (L + 63) / 64 ≤ n) (hn2 : n ≤ 1000000) :
    Calls Try.prog 84 #[.int .u64 (L : Int), .slice a n cap] w fun e w' => ∃ p, e = .returned (.pointer (some ⟨p, 0, none⟩)) ∧ w.heap.size ≤ p ∧ p < w'.heap.size ∧ Blk w' p 91 #[.int .u64 (L : Int), .slice a n cap] ∧ Below w.heap.size w w' := by
  have hlt : decide ((n : Int) < ((L : Int) + 63) / 64) = false := by simp; omega
  go_enter Try.func84, Try.ntmps84
  go_wp2_with fail
  refine (needed_any _ _ (by omega) (by omega)).mono ?_
  rintro e w' ⟨rfl, rfl⟩
  go_wp2_with fail
  go_ret
  exact ⟨_, rfl, Nat.le_refl _, by simp, Blk.new _ _ _, (Below.refl _ _).alloc (Nat.le_refl _) _⟩

theorem ownsRow_below {w w' : World} {B : Nat} {e : TypeId} {size : Nat} {v : Value} {n : Nat} {xs : List Value} (h : w.ownsRow B e size v n xs) (hb : Below w.heap.size w w') : w'.ownsRow B e size v n xs :=
  h.kept (only_of_below hb none) (by cases v.ownBlock <;> simp)

theorem len_blk (p : Nat) (L : Int) (s : Value) (w : World) (hb : Blk w p 91 #[.int .u64 L, s]) :
    Calls Try.prog 58 #[.pointer (some ⟨p, 0, none⟩)] w fun e w' => e = .returned (.int .u64 L) ∧ w = w' := by
  have c0 : w.cell? ⟨p, 0, none⟩ = some (.int .u64 L) := hb.cell 0 rfl
  go_enter Try.func58, Try.ntmps58
  go_wp2_with fail
  go_ret
  exact ⟨rfl, rfl⟩

set_option maxRecDepth 100000 in
set_option maxHeartbeats 1000000 in
/-- said64 of a bitset of no bits -/
theorem said64_zero (p : Nat) (s : Value) (w : World) (hb : Blk w p 91 #[.int .u64 0, s]) :
    Calls Try.prog 41 #[.pointer (some ⟨p, 0, none⟩)] w fun e w' => ∃ v', e = .returned v' ∧ OwnBits w.heap.size w' v' [] ∧ Below w.heap.size w w' := by
  have hp := hb.lt
  have HB := Lib.hid hb
  clear hb
  go_enter Try.func41, Try.ntmps41
  go_wp2_with fail
  refine (len_blk p 0 s _ ?hb).mono ?_
  case hb => exact HB.out.alloc _
  rintro e w' ⟨rfl, rfl⟩
  go_wp2_with fail
  go_loopg [4] 0 (fun k idx wr => SaidLoop 0 [] w k idx wr)
  case atStart =>
    refine ⟨0, none, 0, 0, rfl, by omega, ?_, (Blk.new _ _ _).alloc _, World.ownsRow_nil _ _ _ _, ((Below.refl _ _).alloc (Nat.le_refl _) _).alloc (by simp) _, by simp⟩
    have := Blk.new (w.alloc (.cells #[.int .u64 0, .slice none 0 0] 25)) 25 #[.int .u64 0, .slice none 0 0]
    simpa using this
  case round =>
    obtain ⟨i, q, m, cap0, rfl, hik, hblk, hres, hown, hbel, hsz⟩ := hrel
    obtain rfl : i = 0 := by omega
    have c0 : wr.cell? ⟨w.heap.size + 1, 0, none⟩ = some (.int .u64 0) := hblk.cell 0 rfl
    have c1 : wr.cell? ⟨w.heap.size + 1, 1, none⟩ = some (.slice q m cap0) := hblk.cell 1 rfl
    have f1 := hblk.free 1
    have r0 : wr.cell? ⟨w.heap.size, 0, none⟩ = some (.int .u64 0) := hres.cell 0 rfl
    have r1 : wr.cell? ⟨w.heap.size, 1, none⟩ = some (.slice none 0 0) := hres.cell 1 rfl
    have g0 := hres.free 0
    have g1 := hres.free 1
    have HO := Lib.hid hown
    clear hblk hres hown
    go_wp2_with fail
    refine bodyPost_ret (v := .agg #[.int .u64 0, .slice q m cap0]) (by simp [results, Try.results41, go_sem, *]) rfl ?_
    have ho := ownsRow_setCell_below (ownsRow_setCell_below HO.out (a := ⟨w.heap.size, 0, none⟩) (by simp) (.int .u64 0)) (a := ⟨w.heap.size, 1, none⟩) (by simp) (.slice q m cap0)
    exact ⟨_, rfl, ⟨_, _, _, rfl, ownsRow_weaken ho (by omega)⟩, (hbel.setCell (Nat.le_refl _) _).setCell (Nat.le_refl _) _⟩

theorem list_yes (v u : Value) (xs ys : List Nat) (w : World) (hv : Sl w v (u64s xs)) (hu : Sl w u (u64s ys)) (h : xs = ys) :
    Calls Try.prog 38 #[v, u] w fun e w' => e = .returned (.bool true) ∧ Below w.heap.size w w' :=
  (list_any v u xs ys w hv hu true (by simpa using h)).mono fun e w' ⟨he, nq, hw⟩ => ⟨he, by rw [hw]; exact below_drewN (Below.refl _ _) nq⟩

theorem pos_bitsOf (ws : List Nat) (bs : List Bool) (M : Nat) (h : ∀ j, Bsm.bit ws j = bs.getD j false) (hM : bs.length ≤ M) : Bsm.pos (Bsm.bitsOf ws M) = Bsm.pos bs := by
  apply Bsm.pos_ext
  intro j
  rw [Bsm.bitsOf_get, h]
  by_cases hj : j < M
  · simp [hj]
  · rw [Bsm.getD_out bs j (by omega)]; simp
end Go.Proofs.Ytbcbkieebelleaa
