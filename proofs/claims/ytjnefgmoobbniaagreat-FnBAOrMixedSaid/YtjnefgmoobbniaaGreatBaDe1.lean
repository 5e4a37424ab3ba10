/- Walks of dense arrays: new, capacity, empty, count, numbers (printed by gen_ba_de1.py). -/
import Derived.Test.YtjnefgmoobbniaaGreatBaDeMath
import Derived.Test.YtjnefgmoobbniaaGreatBaTwoLaw
namespace Go.Proofs.YtjnefgmoobbniaaGreat
set_option linter.unusedVariables false
open Go.RowKit Bam

/-- the dense array of words W -/
def deA (W : List Nat) : Arr := .de W (loW W) (hiW W) (anyW W)
def DeW (w : World) (p : Nat) (F : List Nat) (W : List Nat) : Prop := DeAt w p F W (loW W) (hiW W) (anyW W)
theorem u64s_rep (m : Nat) : List.replicate m (Value.int .u64 0) = u64s (List.replicate m 0) := by simp [u64s]
theorem DeAt.cells {w : World} {p : Nat} {F W : List Nat} {lo hi : Nat} {any : Bool} (h : DeAt w p F W lo hi any) : ∃ (a : Option Addr) (c : Nat), w.cell? ⟨p, 0, none⟩ = some (.slice a W.length c) ∧ w.cell? ⟨p, 1, none⟩ = some (.int .u64 (lo : Int)) ∧ w.cell? ⟨p, 2, none⟩ = some (.int .u64 (hi : Int)) ∧ w.cell? ⟨p, 3, none⟩ = some (.bool any) ∧
    (0 < W.length → ∃ g, a = some ⟨g, 0, none⟩ ∧ ∀ i, i < W.length → w.cell? ⟨g, i, none⟩ = some (.int .u64 ((W.getD i 0 : Nat) : Int))) := by
  obtain ⟨a, c, h1, h2, rfl⟩ := h
  refine ⟨a, c, h1.cell 0 rfl, h1.cell 1 rfl, h1.cell 2 rfl, h1.cell 3 rfl, fun h0 => ?_⟩
  obtain ⟨a', c', e, hs⟩ := h2.shape
  injection e with e1 e2 e3
  subst e1
  exact hs h0

set_option maxRecDepth 100000 in
theorem newde_nil (n m : Nat) (w : World) (hm : m = (n + 63) / 64) (hn : n ≤ 10000000) :
    Calls Tryz.prog 34 #[.int .u64 (n : Int), .slice none 0 0] w fun e w' => ∃ (r : Nat) (F : List Nat), e = .returned (.pointer (some ⟨r, 0, none⟩)) ∧ DeW w' r F (List.replicate m 0) ∧ (∀ x ∈ F, w.heap.size ≤ x) ∧ Below w.heap.size w w' := by
  have hir := idxrem_any n (by omega) w
  have HIR := Lib.hid hir
  have hq : (n : Int) / 64 = ((n / 64 : Nat) : Int) := by omega
  have hml : m ≤ 1000000 := by omega
  have hcase : (0 < n % 64 ∧ m = n / 64 + 1) ∨ (¬ 0 < n % 64 ∧ m = n / 64) := by omega
  obtain ⟨A, hA⟩ : ∃ A, n / 64 = A := ⟨_, rfl⟩
  obtain ⟨B, hB⟩ : ∃ B, n % 64 = B := ⟨_, rfl⟩
  rw [hA, hB] at hir hcase
  have HIR := Lib.hid hir
  clear hir hm hq hA hB
  have hend : ∀ w1 : World, w1.ownsRow w.heap.size 74 1 (.slice (some ⟨w.heap.size, 0, none⟩) m m) m (List.replicate m (.int .u64 0)) → Below w.heap.size w w1 →
      ∃ F, DeW (w1.alloc (.cells #[.slice (some ⟨w.heap.size, 0, none⟩) m m, .int .u64 0, .int .u64 0, .bool false] 90)) w1.heap.size F (List.replicate m 0) ∧ ∀ x ∈ F, w.heap.size ≤ x := fun w1 ho hb => by
    obtain ⟨z1, z2, z3⟩ := lo_nil (dnums_zero m)
    unfold DeW
    rw [z1, z2, z3]
    rw [u64s_rep] at ho
    have hl : (List.replicate m 0).length = m := List.length_replicate
    refine ⟨_, ⟨some ⟨w.heap.size, 0, none⟩, m, ?_, ?_, rfl⟩, fun x hx => ?_⟩
    · rw [hl]; exact Blk.new w1 _ _
    · rw [hl]; exact Ue.of (ho.alloc _)
    · rcases List.mem_cons.1 hx with e | e
      · rw [e]; exact hb.size
      · rw [hl] at e; exact (own_lt ho x e).2
  have HEND := Lib.hid hend
  clear hend
  rcases hcase with ⟨h0, hm⟩ | ⟨h0, hm⟩
  · have hd : decide (0 < B) = true := by rw [decide_eq_true_iff]; exact h0
    have hmi : (A : Int) + 1 = (m : Int) := by omega
    have HM := Lib.hid hmi
    have hA2 : (A : Int) ≤ 1000000 := by omega
    clear h0 hm hmi
    go_enter Tryz.func34, Tryz.ntmps34
    go_wp2_with fail
    refine HIR.out.mono ?_
    rintro e w' ⟨rfl, rfl⟩
    go_wp2_with (at_make; refine wpList_make1 rfl _ _ 88 rfl w.heap.size 74 (.int .u64 0) 8 Tryz.underlying88 info_blk rfl _ _ _ _ m rfl rfl HM.out HM.out (by omega) (by unfold maxLen; omega) (Nat.le_refl _) ?_; intro w1 hown1 hb1 hs1; have HOW := Lib.hid hown1; have HB1 := Lib.hid hb1; clear hown1 hb1)
    go_ret
    obtain ⟨F, hF, hfr⟩ := HEND.out _ HOW.out HB1.out
    exact ⟨_, F, rfl, hF, hfr, HB1.out.alloc (Nat.le_of_lt hs1) _⟩
  · have hd : decide (0 < B) = false := by rw [decide_eq_false_iff_not]; exact h0
    have hmi : (A : Int) = (m : Int) := by omega
    have HM := Lib.hid hmi
    clear h0 hm hmi
    go_enter Tryz.func34, Tryz.ntmps34
    go_wp2_with fail
    refine HIR.out.mono ?_
    rintro e w' ⟨rfl, rfl⟩
    go_wp2_with (at_make; refine wpList_make1 rfl _ _ 88 rfl w.heap.size 74 (.int .u64 0) 8 Tryz.underlying88 info_blk rfl _ _ _ _ m rfl rfl HM.out HM.out (by omega) (by unfold maxLen; omega) (Nat.le_refl _) ?_; intro w1 hown1 hb1 hs1; have HOW := Lib.hid hown1; have HB1 := Lib.hid hb1; clear hown1 hb1)
    go_ret
    obtain ⟨F, hF, hfr⟩ := HEND.out _ HOW.out HB1.out
    exact ⟨_, F, rfl, hF, hfr, HB1.out.alloc (Nat.le_of_lt hs1) _⟩

set_option maxRecDepth 100000 in
theorem newde_one (g : Nat) (n m : Nat) (w : World) (hm : m = (n + 63) / 64) (hn : n ≤ 10000000) (hg : w.cell? ⟨g, 0, none⟩ = some (.bool false)) :
    Calls Tryz.prog 34 #[.int .u64 (n : Int), .slice (some ⟨g, 0, none⟩) 1 1] w fun e w' => ∃ (r : Nat) (F : List Nat), e = .returned (.pointer (some ⟨r, 0, none⟩)) ∧ DeW w' r F (List.replicate m 0) ∧ (∀ x ∈ F, w.heap.size ≤ x) ∧ Below w.heap.size w w' := by
  have hir := idxrem_any n (by omega) w
  have HIR := Lib.hid hir
  have hq : (n : Int) / 64 = ((n / 64 : Nat) : Int) := by omega
  have hml : m ≤ 1000000 := by omega
  have hcase : (0 < n % 64 ∧ m = n / 64 + 1) ∨ (¬ 0 < n % 64 ∧ m = n / 64) := by omega
  obtain ⟨A, hA⟩ : ∃ A, n / 64 = A := ⟨_, rfl⟩
  obtain ⟨B, hB⟩ : ∃ B, n % 64 = B := ⟨_, rfl⟩
  rw [hA, hB] at hir hcase
  have HIR := Lib.hid hir
  clear hir hm hq hA hB
  have hend : ∀ w1 : World, w1.ownsRow w.heap.size 74 1 (.slice (some ⟨w.heap.size, 0, none⟩) m m) m (List.replicate m (.int .u64 0)) → Below w.heap.size w w1 →
      ∃ F, DeW (w1.alloc (.cells #[.slice (some ⟨w.heap.size, 0, none⟩) m m, .int .u64 0, .int .u64 0, .bool false] 90)) w1.heap.size F (List.replicate m 0) ∧ ∀ x ∈ F, w.heap.size ≤ x := fun w1 ho hb => by
    obtain ⟨z1, z2, z3⟩ := lo_nil (dnums_zero m)
    unfold DeW
    rw [z1, z2, z3]
    rw [u64s_rep] at ho
    have hl : (List.replicate m 0).length = m := List.length_replicate
    refine ⟨_, ⟨some ⟨w.heap.size, 0, none⟩, m, ?_, ?_, rfl⟩, fun x hx => ?_⟩
    · rw [hl]; exact Blk.new w1 _ _
    · rw [hl]; exact Ue.of (ho.alloc _)
    · rcases List.mem_cons.1 hx with e | e
      · rw [e]; exact hb.size
      · rw [hl] at e; exact (own_lt ho x e).2
  have HEND := Lib.hid hend
  clear hend
  rcases hcase with ⟨h0, hm⟩ | ⟨h0, hm⟩
  · have hd : decide (0 < B) = true := by rw [decide_eq_true_iff]; exact h0
    have hmi : (A : Int) + 1 = (m : Int) := by omega
    have HM := Lib.hid hmi
    have hA2 : (A : Int) ≤ 1000000 := by omega
    clear h0 hm hmi
    go_enter Tryz.func34, Tryz.ntmps34
    go_wp2_with fail
    refine HIR.out.mono ?_
    rintro e w' ⟨rfl, rfl⟩
    go_wp2_with (at_make; refine wpList_make1 rfl _ _ 88 rfl w.heap.size 74 (.int .u64 0) 8 Tryz.underlying88 info_blk rfl _ _ _ _ m rfl rfl HM.out HM.out (by omega) (by unfold maxLen; omega) (Nat.le_refl _) ?_; intro w1 hown1 hb1 hs1; have hg1 := cell_below hb1 (Nat.le_refl _) hg; have hg2 : (w1.alloc (.cells #[.slice (some ⟨w.heap.size, 0, none⟩) m m, .int .u64 0, .int .u64 0, .bool false] 90)).cell? ⟨g, 0, none⟩ = some (.bool false) := cell_below ((Below.refl _ _).alloc (Nat.le_refl _) _) (Nat.le_refl _) hg1; have HOW := Lib.hid hown1; have HB1 := Lib.hid hb1; clear hown1 hb1)
    go_ret
    obtain ⟨F, hF, hfr⟩ := HEND.out _ HOW.out HB1.out
    exact ⟨_, F, rfl, hF, hfr, HB1.out.alloc (Nat.le_of_lt hs1) _⟩
  · have hd : decide (0 < B) = false := by rw [decide_eq_false_iff_not]; exact h0
    have hmi : (A : Int) = (m : Int) := by omega
    have HM := Lib.hid hmi
    clear h0 hm hmi
    go_enter Tryz.func34, Tryz.ntmps34
    go_wp2_with fail
    refine HIR.out.mono ?_
    rintro e w' ⟨rfl, rfl⟩
    go_wp2_with (at_make; refine wpList_make1 rfl _ _ 88 rfl w.heap.size 74 (.int .u64 0) 8 Tryz.underlying88 info_blk rfl _ _ _ _ m rfl rfl HM.out HM.out (by omega) (by unfold maxLen; omega) (Nat.le_refl _) ?_; intro w1 hown1 hb1 hs1; have hg1 := cell_below hb1 (Nat.le_refl _) hg; have hg2 : (w1.alloc (.cells #[.slice (some ⟨w.heap.size, 0, none⟩) m m, .int .u64 0, .int .u64 0, .bool false] 90)).cell? ⟨g, 0, none⟩ = some (.bool false) := cell_below ((Below.refl _ _).alloc (Nat.le_refl _) _) (Nat.le_refl _) hg1; have HOW := Lib.hid hown1; have HB1 := Lib.hid hb1; clear hown1 hb1)
    go_ret
    obtain ⟨F, hF, hfr⟩ := HEND.out _ HOW.out HB1.out
    exact ⟨_, F, rfl, hF, hfr, HB1.out.alloc (Nat.le_of_lt hs1) _⟩

theorem capacity_de (p : Nat) (F W : List Nat) (lo hi : Nat) (any : Bool) (w : World) (h : DeAt w p F W lo hi any) (hn : W.length ≤ 1000000) :
    Calls Tryz.prog 55 #[.pointer (some ⟨p, 0, none⟩)] w fun e w' => e = .returned (.int .u64 ((64 * W.length : Nat) : Int)) ∧ w = w' := by
  obtain ⟨a, c, c0, -, -, -, -⟩ := h.cells
  obtain ⟨n, hN⟩ : ∃ n, W.length = n := ⟨_, rfl⟩
  rw [hN] at c0 hn ⊢
  have hw : IntKind.u64.wrap (n : Int) = (n : Int) := u64wd n (by omega)
  have hw2 : IntKind.u64.wrap ((n : Int) * 64) = ((64 * n : Nat) : Int) := by rw [show (n : Int) * 64 = ((64 * n : Nat) : Int) by omega]; exact u64wd _ (by omega)
  have HW2 := Lib.hid hw2
  clear h hN hw2
  go_enter Tryz.func55, Tryz.ntmps55
  go_wp2_with fail
  go_ret
  exact ⟨ret_int (by omega), rfl⟩
theorem isempty_de (p : Nat) (F W : List Nat) (lo hi : Nat) (any : Bool) (w : World) (h : DeAt w p F W lo hi any) :
    Calls Tryz.prog 62 #[.pointer (some ⟨p, 0, none⟩)] w fun e w' => e = .returned (.bool (!any)) ∧ w = w' := by
  obtain ⟨a, c, -, -, -, c3, -⟩ := h.cells
  clear h
  go_enter Tryz.func62, Tryz.ntmps62
  go_wp2_with fail
  go_ret
  exact ⟨rfl, rfl⟩

theorem dps_getD (W : List Nat) (i : Nat) (h : i < W.length) : (dps W).getD i (0, 0) = (i, W.getD i 0) := by
  rw [List.getD_eq_getElem?_getD, dps_get, if_pos h]; rfl
theorem dps_len (W : List Nat) : (dps W).length = W.length := by unfold dps; simp
theorem dnums_len (W : List Nat) : (dnums W).length ≤ 64 * W.length := by
  have := cnt_le (dps W)
  rw [dps_len] at this
  exact this
set_option maxHeartbeats 400000 in
theorem count_de (p : Nat) (F W : List Nat) (lo hi : Nat) (any : Bool) (w : World) (h : DeAt w p F W lo hi any) (hok : W64 W) (hn : W.length ≤ 100000) :
    Calls Tryz.prog 57 #[.pointer (some ⟨p, 0, none⟩)] w fun e w' => e = .returned (.int .i64 ((dnums W).length : Nat)) ∧ w = w' := by
  show Calls _ _ _ _ fun e w' => e = .returned (.int .i64 ((nums (dps W)).length : Nat)) ∧ _
  rw [cnt_nums]
  obtain ⟨a, c, c0, -, -, -, hcells⟩ := h.cells
  obtain ⟨n, hN⟩ : ∃ n, n = W.length := ⟨_, rfl⟩
  rw [← hN] at c0 hn hcells
  have HN := Lib.hid hN
  have HC := Lib.hid hcells
  have HOK := Lib.hid hok
  clear hcells h hN hok
  go_enter Tryz.func57, Tryz.ntmps57
  go_wp2_with fail
  go_loopg [3, 11] n (fun k cnt idx wr => CntRel (dps W) w n k cnt idx wr)
  case atStart => exact ⟨0, rfl, by omega, rfl, rfl⟩
  case round =>
    obtain ⟨i, rfl, hik, rfl, rfl⟩ := hrel
    have hcl := cnt_take_le (dps W) i
    by_cases hi : i < n
    · obtain ⟨g1, rfl, hcl2⟩ := HC.out (by omega)
      have hci := hcl2 i hi
      have hiW : i < W.length := by rw [← HN.out]; exact hi
      have e1 := cnt_take (dps W) i (by rw [dps_len]; exact hiW)
      rw [dps_getD W i hiW] at e1
      have hX64 : W.getD i 0 < 18446744073709551616 := getD_lt HOK.out i
      obtain ⟨X, hX⟩ : ∃ X, W.getD i 0 = X := ⟨_, rfl⟩
      rw [hX] at hci e1 hX64
      have HO := Lib.hid (fun w => ones_any X w hX64)
      have E1 := Lib.hid e1
      have hpl := Pop.pc_le 64 X
      generalize Pop.pc 64 X = P at E1 HO hpl
      generalize cntP ((dps W).take i) = C at E1 hcl ⊢
      clear hcl2 e1 hX hX64
      cases gk with
      | zero => omega
      | succ k =>
        go_wp2_with fail
        refine (HO.out _).mono ?_
        rintro e w1 ⟨rfl, rfl⟩
        go_wp2_with fail
        go_roundg k
        case measure => omega
        case rel => exact ⟨i + 1, by go_num, by omega, by rw [E1.out]; go_num, rfl⟩
    · obtain rfl : i = n := by omega
      have e1 : (dps W).take i = dps W := List.take_of_length_le (by rw [dps_len, HN.out]; exact Nat.le_refl _)
      rw [e1] at hcl ⊢
      obtain ⟨C, hC⟩ : ∃ C, cntP (dps W) = C := ⟨_, rfl⟩
      rw [hC] at hcl ⊢
      have HC2 := Lib.hid hC
      clear e1 hC
      go_wp2_with fail
      go_ret
      exact ⟨by rw [HC2.out]; rfl, rfl⟩
end Go.Proofs.YtjnefgmoobbniaaGreat
