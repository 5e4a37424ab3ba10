/- Walk of the copy of a sparse array. -/
import Derived.Test.YtgifbdjifmoafaaGreatBaAndSp
namespace Go.Proofs.YtgifbdjifmoafaaGreat
set_option linter.unusedVariables false
open Go.RowKit Bam

set_option maxRecDepth 100000 in
theorem copysp_any (p : Nat) (F : List Nat) (ps : Ps) (w : World) (h : SpAt w p F ps) (hn : ps.length ≤ 1000) :
    Calls Tryz.prog 99 #[.pointer (some ⟨p, 0, none⟩)] w fun e w' =>
      ∃ (r : Nat) (H : List Nat), e = .returned (.pointer (some ⟨r, 0, none⟩)) ∧ SpAt w' r H ps ∧ (∀ x ∈ H, w.heap.size ≤ x) ∧ Below w.heap.size w w' := by
  obtain ⟨a1, c1, a2, c2, h0, h1, hcells, hU, hW⟩ := h.cells
  have hl1 : (ps.map Prod.fst).length = ps.length := List.length_map _
  have hl2 : (ps.map Prod.snd).length = ps.length := List.length_map _
  have s1 : Sl w (.slice a2 ps.length c2) (u64s (ps.map Prod.fst)) := Sl.of_owns hU
  have s2 : Sl w (.slice a1 ps.length c1) (u64s (ps.map Prod.snd)) := Sl.of_owns hW
  obtain ⟨P1, hP1⟩ : ∃ P, ps.map Prod.fst = P := ⟨_, rfl⟩
  obtain ⟨P2, hP2⟩ : ∃ P, ps.map Prod.snd = P := ⟨_, rfl⟩
  obtain ⟨n, hN⟩ : ∃ n, ps.length = n := ⟨_, rfl⟩
  rw [hP1] at hl1 s1
  rw [hP2] at hl2 s2
  rw [hN] at hl1 hl2 s1 s2 h0 h1 hn
  have HR1 : Hid ((u64s P1) ++ (List.replicate n (Value.int .u64 0)).drop (u64s P1).length = u64s P1) := Lib.hid (by rw [u64s_len, hl1, List.drop_eq_nil_of_le (by simp), List.append_nil])
  have HR2 : Hid ((u64s P2) ++ (List.replicate n (Value.int .u64 0)).drop (u64s P2).length = u64s P2) := Lib.hid (by rw [u64s_len, hl2, List.drop_eq_nil_of_le (by simp), List.append_nil])
  have HL1 : Hid ((u64s P1).length = n) := Lib.hid (by rw [u64s_len, hl1])
  have HL2 : Hid ((u64s P2).length = n) := Lib.hid (by rw [u64s_len, hl2])
  have HS1 := Lib.hid s1
  have HS2 := Lib.hid s2
  have HP1 := Lib.hid hP1
  have HP2 := Lib.hid hP2
  have HN := Lib.hid hN
  clear h hcells hU hW hl1 hl2 s1 s2 hP1 hP2 hN
  go_enter Tryz.func99, Tryz.ntmps99
  go_wp2_with (first
    | (at_make; refine wpList_make1 rfl _ _ 108 rfl w.heap.size 87 (.int .u64 0) 8 Tryz.underlying108 info_blk rfl _ _ _ _ n rfl rfl rfl rfl (by omega) (by unfold maxLen; omega) (Nat.le_refl _) ?_; intro w1 hown1 hb1 hs1; have e0 := cell_below hb1 (Nat.le_refl _) h0; have HOW := Lib.hid hown1; have HB1 := Lib.hid hb1; have hsz1 := hb1.size; clear hown1 hb1 hs1)
    | (refine wpList_copySl rfl _ _ 108 108 rfl w.heap.size 87 (.int .u64 0) 8 Tryz.underlying108 info_blk w.heap.size n n (List.replicate n (.int .u64 0)) rfl HOW.out (.slice a1 n c1) (u64s P2) rfl (HS2.out.below rfl HB1.out) (by rw [HL2.out]; omega) (u64s_one _) ?_; intro w2 hown2 hg2 hb2; rw [HR2.out] at hown2; have HOW2 := Lib.hid hown2; have HB2 := Lib.hid (HB1.out.trans hb2); have f1 := cell_below HB2.out (Nat.le_refl _) h1; have hsz2 := HB2.out.size; clear hown2 hg2 hb2 e0 h0)
    | (at_make; refine wpList_make1 rfl _ _ 109 rfl w.heap.size 25 (.int .u64 0) 8 Tryz.underlying109 info_u64 rfl _ _ _ _ n rfl rfl rfl rfl (by omega) (by unfold maxLen; omega) hsz2 ?_; intro w3 hown3 hb3 hs3; have f3 := cell_below (HB2.out.trans (hb3.mono hsz2)) (Nat.le_refl _) h1; have HOW3 := Lib.hid hown3; have HB3 := Lib.hid (HB2.out.trans (hb3.mono hsz2)); have HOW23 := Lib.hid (own_below HOW2.out hb3); have hsz3 := HB3.out.size; clear hown3 hb3 hs3 f1)
    | (refine wpList_copySl rfl _ _ 109 109 rfl w.heap.size 25 (.int .u64 0) 8 Tryz.underlying109 info_u64 _ n n (List.replicate n (.int .u64 0)) rfl HOW3.out (.slice a2 n c2) (u64s P1) rfl (HS1.out.below rfl HB3.out) (by rw [HL1.out]; omega) (u64s_one _) ?_; intro w4 hown4 hg4 hb4; rw [HR1.out] at hown4; have HOW4 := Lib.hid hown4; have HB4 := Lib.hid (HB3.out.trans hb4); have HOW24 := Lib.hid ((Fr.of_grown_same hg4).own HOW23.out (row_row HOW23.out HOW3.out (by decide))); clear hown4 hg4 hb4))
  go_ret
  have hsz4 := HB4.out.size
  have o6 := HOW4.out
  have o7 := HOW24.out
  rw [← HP1.out] at o6
  rw [← HP2.out] at o7
  obtain ⟨H, hsp, hfr⟩ := acc_end HN.out hsz4 o6 o7
  exact ⟨_, H, rfl, hsp, hfr, HB4.out.alloc hsz4 _⟩
end Go.Proofs.YtgifbdjifmoafaaGreat
