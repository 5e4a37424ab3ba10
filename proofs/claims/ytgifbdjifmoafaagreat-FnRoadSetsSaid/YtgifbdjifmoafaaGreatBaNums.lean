/- Walks of a block's toNums and of a sparse array's ToNums. -/
import Derived.Test.YtgifbdjifmoafaaGreatBaSp2
namespace Go.Proofs.YtgifbdjifmoafaaGreat
set_option linter.unusedVariables false
open Go.RowKit Bam

def bitsTo (b i : Nat) : List Nat := (List.range i).filter fun j => b.testBit j
theorem bitsTo_succ (b i : Nat) : bitsTo b (i + 1) = bitsTo b i ++ if b.testBit i then [i] else [] := by
  unfold bitsTo
  rw [List.range_succ, List.filter_append]
  congr 1
  by_cases h : b.testBit i <;> simp [h]
theorem bitsTo_len (b i : Nat) : (bitsTo b i).length ≤ i := by unfold bitsTo; exact Nat.le_trans (List.length_filter_le _ _) (by simp)

def NumRel (b off B q : Nat) (T : TypeId) (acc : List Nat) (w : World) (k : Nat) (idx : Value) (wr : World) : Prop :=
  ∃ (i : Nat) (a : Option Addr) (m c : Nat), idx = .int .u64 (i : Int) ∧ i + k = 64 ∧ m = acc.length + (bitsTo b i).length ∧ wr.ownsRow B 25 1 (.slice a m c) m (u64s (acc ++ (bitsTo b i).map fun j => j + off)) ∧ One wr q T (.slice a m c) ∧ Below B w wr

set_option maxRecDepth 100000 in
set_option maxHeartbeats 1000000 in
theorem tonums_any (b off B q : Nat) (T : TypeId) (acc : List Nat) (a : Option Addr) (m c : Nat) (w : World) (hb : b < 18446744073709551616) (hoff : off < 9223372036854775808) (hT : 25 ≠ T) (hm : m = acc.length) (hl : acc.length ≤ 1000000) (hown : w.ownsRow B 25 1 (.slice a m c) m (u64s acc)) (hq : One w q T (.slice a m c)) (hBq : B ≤ q) (hBw : B ≤ w.heap.size) :
    Calls Tryz.prog 96 #[.int .u64 (b : Int), .int .u64 (off : Int), .pointer (some ⟨q, 0, none⟩)] w fun e w' => e = .returned (.tuple #[]) ∧
      ∃ a' m' c', m' = acc.length + (bitsOf b).length ∧ w'.ownsRow B 25 1 (.slice a' m' c') m' (u64s (acc ++ (bitsOf b).map fun j => j + off)) ∧ One w' q T (.slice a' m' c') ∧ Below B w w' := by
  have HO := Lib.hid hown
  have HQ := Lib.hid hq
  have HM := Lib.hid hm
  clear hown hq hm
  go_enter Tryz.func96, Tryz.ntmps96
  go_wp2_with fail
  go_loopg [6] 64 (fun k idx wr => NumRel b off B q T acc w k idx wr)
  case atStart => exact ⟨0, a, m, c, rfl, rfl, by rw [HM.out]; rfl, by simpa [bitsTo] using HO.out, HQ.out, Below.refl _ _⟩
  case round =>
    obtain ⟨i, a1, m1, c1, rfl, hik, hm1, hown1, hq1, hb1⟩ := hrel
    have hbl := bitsTo_len b i
    by_cases hi : i < 64
    · have e1 := bitsTo_succ b i
      have haw := and_word b i hb hi
      have HAW := Lib.hid haw
      have hpos := Nat.two_pow_pos i
      have E1 := Lib.hid e1
      have HM1 := Lib.hid hm1
      have HO1 := Lib.hid hown1
      have HQ1 := Lib.hid hq1
      have HB1 := Lib.hid hb1
      have hml : m1 ≤ 1000064 := by omega
      clear e1 haw hm1 hown1 hq1 hb1
      cases gk with
      | zero => omega
      | succ k =>
        have hx0 : b.testBit i = true ∨ b.testBit i = false := by cases b.testBit i <;> simp
        rcases hx0 with hx | hx
        · have ht : ¬ bits BinOp.and IntKind.u64 (b : Int) (IntKind.u64.wrap (2 ^ i)) = 0 := by
            rw [HAW.out, hx]; simp only [if_true]; generalize 2 ^ i = z at hpos; omega
          have ht2 : 0 < bits BinOp.and IntKind.u64 (b : Int) (IntKind.u64.wrap (2 ^ i)) := by
            rw [HAW.out, hx]; simp only [if_true]; generalize 2 ^ i = z at hpos; omega
          have hq0 := HQ1.out.cell
          have hqf := HQ1.out.free
          have hs : IntKind.u64.wrap ((i : Int) + (off : Int)) = ((i + off : Nat) : Int) := by rw [IntKind.wrap_u64]; omega
          have HX := Lib.hid hx
          clear hx ht hpos
          have hqne : q ∉ obl (.slice a1 m1 c1) := fun e => row_blk HO1.out (show Blk wr q T _ from HQ1.out) hT (mem_obl.1 e)
          go_wp2_with (at_builtin; refine wpList_append1A rfl _ _ 23 rfl B 25 (.int .u64 0) 8 Tryz.underlying23 info_u64 rfl _ m1 _ rfl HO1.out (.int .u64 ((i : Int) + (off : Int))) rfl rfl (by unfold maxLen; omega) (by omega) (Nat.le_trans hBw HB1.out.size) ?_; intro g2 cap2 w2 own2 fr2; have O2 := Lib.hid own2; have F2 := Lib.hid fr2; have Q2 : Hid (One w2 q T (.slice a1 m1 c1)) := Lib.hid (F2.out.blk (show Blk wr q T _ from HQ1.out) hqne); have qc2 := Q2.out.cell; have qf2 := Q2.out.free; clear own2 fr2)
          go_roundg k
          case measure => omega
          case rel =>
            have hqg : q ≠ g2 := fun e => row_blk O2.out (show Blk w2 q T _ from Q2.out) hT (by rw [e]; rfl)
            have e2 : u64s (acc ++ (bitsTo b i).map fun j => j + off) ++ [.int .u64 ((i : Int) + (off : Int))] = u64s (acc ++ (bitsTo b (i + 1)).map fun j => j + off) := by
              rw [E1.out, HX.out]; simp [u64s]
            have h2 := O2.out
            rw [e2] at h2
            refine ⟨i + 1, some ⟨g2, 0, none⟩, m1 + 1, cap2, by go_num, by omega, by rw [E1.out, HX.out, HM1.out]; simp; omega, (fr_store_other w2 q 0 _).own h2 (fun k hk => by rw [obl_some, List.mem_singleton] at hk; simp; omega), Q2.out.set _, ?_⟩
            exact (HB1.out.trans (F2.out.below (fun k hk => (own_lt HO1.out k hk).2) (Nat.le_trans hBw HB1.out.size))).setCell hBq _
        · have ht : bits BinOp.and IntKind.u64 (b : Int) (IntKind.u64.wrap (2 ^ i)) = 0 := by rw [HAW.out, hx]; rfl
          have ht2 : ¬ 0 < bits BinOp.and IntKind.u64 (b : Int) (IntKind.u64.wrap (2 ^ i)) := by rw [ht]; omega
          have HX := Lib.hid hx
          clear hx hpos ht
          go_wp2_with fail
          go_roundg k
          case measure => omega
          case rel => exact ⟨i + 1, a1, m1, c1, by go_num, by omega, by rw [E1.out, HX.out, HM1.out]; simp, by rw [E1.out, HX.out]; simpa using HO1.out, HQ1.out, HB1.out⟩
    · obtain rfl : i = 64 := by omega
      have HO1 := Lib.hid hown1
      have HQ1 := Lib.hid hq1
      have HM1 := Lib.hid hm1
      clear hown1 hq1 hbl hm1
      go_wp2_with fail
      go_end0
      exact ⟨rfl, a1, m1, c1, HM1.out, HO1.out, HQ1.out, hb1⟩

theorem nums_take (ps : Ps) (i : Nat) (h : i < ps.length) : nums (ps.take (i + 1)) = nums (ps.take i) ++ (bitsOf (ps.getD i (0, 0)).2).map fun j => j + (ps.getD i (0, 0)).1 * 64 := by
  rw [List.take_succ_eq_append_getElem h, nums_append]
  have e : ps.getD i (0, 0) = ps[i] := by simp [List.getD_eq_getElem?_getD, h]
  rw [e]
  simp [nums]
theorem bitsOf_len (b : Nat) : (bitsOf b).length ≤ 64 := bitsTo_len b 64
theorem nums_take_len (ps : Ps) (i : Nat) : (nums (ps.take i)).length ≤ 64 * i := by rw [cnt_nums]; exact cnt_take_le ps i

def AllRel (ps : Ps) (n B q : Nat) (w : World) (k : Nat) (idx : Value) (wr : World) : Prop :=
  ∃ (i : Nat) (a : Option Addr) (m c : Nat), idx = .int .i64 (i : Int) ∧ i + k = n ∧ m = (nums (ps.take i)).length ∧ wr.ownsRow B 25 1 (.slice a m c) m (u64s (nums (ps.take i))) ∧ One wr q 23 (.slice a m c) ∧ Below B w wr

set_option maxRecDepth 100000 in
set_option maxHeartbeats 1000000 in
theorem allnums_any (p : Nat) (F : List Nat) (ps : Ps) (w : World) (h : SpAt w p F ps) (hok : Ok ps) (hn : ps.length ≤ 1000) (hb : ∀ q ∈ ps, q.1 < 144115188075855872) :
    Calls Tryz.prog 123 #[.pointer (some ⟨p, 0, none⟩)] w fun e w' => ∃ a m c, e = .returned (.slice a m c) ∧ w'.ownsRow w.heap.size 25 1 (.slice a m c) m (u64s (nums ps)) ∧ Below w.heap.size w w' := by
  have hSP := Lib.hid h
  obtain ⟨a1, c1, a2, c2, h0, h1, hcells, hU, hW⟩ := h.cells
  obtain ⟨n, hN⟩ : ∃ n, n = ps.length := ⟨_, rfl⟩
  rw [← hN] at h0 h1 hcells hn
  have HN := Lib.hid hN
  have HC := Lib.hid hcells
  have HOK := Lib.hid hok
  have HBD := Lib.hid hb
  have H0 := Lib.hid h0
  have H1 := Lib.hid h1
  have hlt0 := World.block_lt_of_cell? w _ h0
  clear hU hW h hcells hok hb hN h0
  by_cases hz : n = 0
  · subst hz
    have he : ps = [] := List.eq_nil_of_length_eq_zero HN.out.symm
    have HE := Lib.hid he
    clear he hlt0
    go_enter Tryz.func123, Tryz.ntmps123
    go_wp2_with fail
    go_ret
    exact ⟨none, 0, 0, rfl, by rw [HE.out]; exact World.ownsRow_nil _ _ _ _, Below.refl _ _⟩
  · have hz2 : ((n : Int) == 0) = false := by rw [beq_eq_false_iff_ne]; omega
    have hd : (n : Int) * 64 / 4 = ((16 * n : Nat) : Int) := by omega
    have HD := Lib.hid hd
    clear hz hd
    go_enter Tryz.func123, Tryz.ntmps123
    go_wp2_with (at_make; refine wpList_make2 rfl _ _ 23 rfl w.heap.size 25 (.int .u64 0) 8 Tryz.underlying23 info_u64 rfl _ _ _ _ 0 (16 * n) rfl rfl rfl (by omega) (by omega) (by omega) (by unfold maxLen; omega) (Nat.le_refl _) ?_; intro w1 hown1 hb1 hs1; have h1w : w1.cell? ⟨p, 1, none⟩ = some (.slice a2 n c2) := (hb1.cell (p := ⟨p, 1, none⟩) hlt0).trans H1.out; have hp1 : p < w1.heap.size := Nat.lt_trans hlt0 hs1; have HO1 := Lib.hid hown1; have HB1 := Lib.hid hb1; clear hown1 hb1)
    have hq1 : One (w1.alloc (.cells #[.slice (some ⟨w.heap.size, 0, none⟩) 0 (16 * n)] 23)) w1.heap.size 23 (.slice (some ⟨w.heap.size, 0, none⟩) 0 (16 * n)) := One.new _ _ _
    have hB1 : Below w.heap.size w (w1.alloc (.cells #[.slice (some ⟨w.heap.size, 0, none⟩) 0 (16 * n)] 23)) := HB1.out.alloc (Nat.le_of_lt hs1) _
    have hO1 := HO1.out.alloc (.cells #[.slice (some ⟨w.heap.size, 0, none⟩) 0 (16 * n)] 23)
    obtain ⟨wA, hwA⟩ : ∃ wA, w1.alloc (.cells #[.slice (some ⟨w.heap.size, 0, none⟩) 0 (16 * n)] 23) = wA := ⟨_, rfl⟩
    rw [hwA] at hq1 hB1 hO1 ⊢
    have hqge : w.heap.size ≤ w1.heap.size := Nat.le_of_lt hs1
    obtain ⟨q, hqq⟩ : ∃ q, w1.heap.size = q := ⟨_, rfl⟩
    rw [hqq] at hq1 hqge ⊢
    clear hwA h1w hs1 HO1 HB1 hp1 hqq
    have HQ := Lib.hid hq1
    have HBA := Lib.hid hB1
    have HOA := Lib.hid hO1
    clear hq1 hB1 hO1
    go_loopg [28] n (fun k idx wr => AllRel ps n w.heap.size q w k idx wr)
    case atStart => exact ⟨0, _, 0, _, rfl, by omega, rfl, HOA.out, HQ.out, HBA.out⟩
    case round =>
      obtain ⟨i, a, m, c, rfl, hik, hm, hown, hq, hbel⟩ := hrel
      have hnl := nums_take_len ps i
      have HM := Lib.hid hm
      have HOW := Lib.hid hown
      have HQQ := Lib.hid hq
      have HBE := Lib.hid hbel
      clear hm hown hq hbel
      by_cases hi : i < n
      · have hip : i < ps.length := by rw [← HN.out]; exact hi
        obtain ⟨g1, g2, rfl, rfl, hcl⟩ := HC.out (by omega)
        have hci := hcl i hi
        have hX64 : (ps.getD i (0, 0)).2 < 18446744073709551616 := HOK.out.2 _ (by
          rw [List.getD_eq_getElem?_getD, List.getElem?_eq_getElem hip]; exact List.getElem_mem hip)
        have hY64 : (ps.getD i (0, 0)).1 < 144115188075855872 := HBD.out _ (by
          rw [List.getD_eq_getElem?_getD, List.getElem?_eq_getElem hip]; exact List.getElem_mem hip)
        have e1 := nums_take ps i hip
        obtain ⟨X, hX⟩ : ∃ X, (ps.getD i (0, 0)).2 = X := ⟨_, rfl⟩
        obtain ⟨Y, hY⟩ : ∃ Y, (ps.getD i (0, 0)).1 = Y := ⟨_, rfl⟩
        rw [hX] at hci hX64 e1
        rw [hY] at hci hY64 e1
        have k1 : wr.cell? ⟨g2, i, none⟩ = some (.int .u64 (Y : Int)) := (HBE.out.cell (World.block_lt_of_cell? w _ hci.2)).trans hci.2
        have k2 : wr.cell? ⟨g1, i, none⟩ = some (.int .u64 (X : Int)) := (HBE.out.cell (World.block_lt_of_cell? w _ hci.1)).trans hci.1
        have k3 : wr.cell? ⟨p, 0, none⟩ = some (.slice (some ⟨g1, 0, none⟩) n c1) := (HBE.out.cell hlt0).trans H0.out
        have ht := tonums_any X (Y * 64) w.heap.size q 23 (nums (ps.take i)) a m c wr hX64 (by omega) (by decide) HM.out (by omega) HOW.out HQQ.out hqge HBE.out.size
        rw [← e1] at ht
        have el : (nums (ps.take i)).length + (bitsOf X).length = (nums (ps.take (i + 1))).length := by rw [e1]; simp
        rw [el] at ht
        have hpc : ((Y * 64 : Nat) : Int) = (Y : Int) * 64 := by omega
        rw [hpc] at ht
        have HT := Lib.hid ht
        clear hcl hci hX hY e1 ht el hnl hpc
        cases gk with
        | zero => omega
        | succ k =>
          go_wp2_with fail
          refine HT.out.mono ?_
          rintro e w3 ⟨rfl, a', m', c', hm', hown', hq', hbel'⟩
          have HM' := Lib.hid hm'
          have HO' := Lib.hid hown'
          have HQ' := Lib.hid hq'
          have HB' := Lib.hid hbel'
          clear hm' hown' hq' hbel'
          go_wp2_with fail
          go_roundg k
          case measure => omega
          case rel => exact ⟨i + 1, a', m', c', by go_num, by omega, HM'.out, HO'.out, HQ'.out, HBE.out.trans HB'.out⟩
      · obtain rfl : i = n := by omega
        have et : ps.take i = ps := List.take_of_length_le (by rw [HN.out]; exact Nat.le_refl _)
        have hqc := HQQ.out.cell
        rw [et] at HOW
        clear et hnl
        go_wp2_with fail
        go_ret
        exact ⟨a, m, c, rfl, HOW.out, HBE.out⟩
end Go.Proofs.YtgifbdjifmoafaaGreat
