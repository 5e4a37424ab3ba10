/- Walks of BitSet's extendSet, and of Set and Flip beyond the end. -/
import Derived.Test.YtbcbkieebelleaaBsSaid
import Derived.Lib.SliceRun
namespace Go.Proofs.Ytbcbkieebelleaa
set_option linter.unusedVariables false
open Go.RowKit

theorem u64_cells (l : List Nat) : ∀ u ∈ u64s l, u.oneCell' = true := by
  intro u hu
  obtain ⟨x, _, rfl⟩ := List.mem_map.1 hu
  rfl

theorem cap_any (w : World) : Calls Try.prog 83 #[] w fun e w' => e = .returned (.int .u64 18446744073709551615) ∧ w = w' := by
  go_enter Try.func83, Try.ntmps83
  go_wp2
  go_ret
  exact ⟨rfl, rfl⟩

theorem only_drew {a w : World} {row : Option Nat} (h : a.grownBy w row) : a.grownBy w.drew row := ⟨h.os, h.tape, h.output, h.size, h.block⟩
theorem only_drewN {a w : World} {row : Option Nat} (h : a.grownBy w row) (n : Nat) : a.grownBy (w.drewN n) row := ⟨h.os, h.tape, h.output, h.size, h.block⟩
theorem only_setCell {a w : World} {g : Nat} (h : a.grownBy w (some g)) {p : Addr} (hp : p.block = g ∨ a.heap.size ≤ p.block) (u : Value) : a.grownBy (w.setCell p u) (some g) :=
  ⟨h.os, h.tape, h.output, by simpa [World.setCell] using h.size, fun i hi hne => (Below.heap_setCell w p u i (by
    rintro rfl
    rcases hp with hp | hp
    · exact hne (by rw [hp])
    · omega)).trans (h.block i hi hne)⟩
theorem only_of_below {a w : World} (h : Below a.heap.size a w) (row : Option Nat) : a.grownBy w row := ⟨h.os, h.tape, h.output, h.size, fun i hi _ => h.block i hi⟩
theorem only_below {a w w1 : World} {row : Option Nat} (h : a.grownBy w row) (hb : Below w.heap.size w w1) : a.grownBy w1 row :=
  ⟨hb.os.trans h.os, hb.tape.trans h.tape, hb.output.trans h.output, Nat.le_trans h.size hb.size, fun i hi hn => (hb.block i (Nat.lt_of_lt_of_le hi h.size)).trans (h.block i hi hn)⟩
theorem only_refl (a : World) (row : Option Nat) : a.grownBy a row := ⟨rfl, rfl, rfl, Nat.le_refl _, fun _ _ _ => rfl⟩

theorem only_two {a w : World} {g : Nat} (h : a.grownBy w (some g)) (u v : Value) : a.grownBy ((w.setCell ⟨g, 1, none⟩ u).setCell ⟨g, 0, none⟩ v) (some g) :=
  only_setCell (p := ⟨g, 0, none⟩) (only_setCell (p := ⟨g, 1, none⟩) h (.inl rfl) u) (.inl rfl) v

set_option maxRecDepth 100000 in
set_option maxHeartbeats 1000000 in
theorem extend_far (B p L i : Nat) (I : Int) (hI : I = i) (ws : List Nat) (w : World) (hb : Bs B w p L ws ws.length) (hwl : ws.length = (L + 63) / 64) (hi : L ≤ i) (hi2 : i ≤ 100000) (hBw : B ≤ w.heap.size) :
    Calls Try.prog 76 #[.pointer (some ⟨p, 0, none⟩), .int .u64 I] w fun e w' => e = .returned (.tuple #[]) ∧
      ∃ ws' cap', Bs B w' p (i + 1) ws' cap' ∧ ws'.length = (i + 64) / 64 ∧ (∀ j, Bsm.bit ws' j = Bsm.bit ws j) ∧ Below B w w' ∧ w.grownBy w' (some p) ∧ (∀ a n c, w'.cell? ⟨p, 1, none⟩ = some (.slice (some a) n c) → w.cell? ⟨p, 1, none⟩ = some (.slice (some a) ws.length ws.length) ∨ w.heap.size ≤ a.block) := by
  obtain ⟨g, h1, h2, h3, h4, h5⟩ := hb
  obtain ⟨n, hn⟩ : ∃ n : Nat, (i + 64) / 64 = n := ⟨_, rfl⟩
  have hn2 : (I + 1 + 63) / 64 = (n : Int) := by omega
  have hI1 : 0 ≤ I := by omega
  have hI2 : I ≤ 100000 := by omega
  have hn3 : n ≤ 100000 := by omega
  have hn4 : ws.length ≤ n := by omega
  rw [hn]
  obtain ⟨l, hl⟩ : ∃ l, ws.length = l := ⟨_, rfl⟩
  rw [hl] at h3 h4 hn4
  have c1 : w.cell? ⟨p, 1, none⟩ = some (.slice (some ⟨g, 0, none⟩) l l) := h3.cell 1 rfl
  have c0 : w.cell? ⟨p, 0, none⟩ = some (.int .u64 (L : Int)) := h3.cell 0 rfl
  have f0 := h3.free 0
  have f1 := h3.free 1
  have HL := Lib.hid hl
  have H1 := Lib.hid h1
  have H2 := Lib.hid h2
  have H3 := Lib.hid h3
  have H4 := Lib.hid h4
  have H5 := Lib.hid h5
  have HWL := Lib.hid hwl
  have HI := Lib.hid hI
  have HI2 := Lib.hid hi2
  have HI1 := Lib.hid hi
  clear hl hwl h1 h2 h3 h4 h5 hn hI hi2 hi
  have hnil := fun (w : World) => Lib.run_eql_slice_nil (P := Try.prog) w 37 52 (some ⟨g, 0, none⟩) l l 0 0 Try.underlying37
  by_cases hln : l = n
  · subst hln
    go_enter Try.func76, Try.ntmps76
    go_wp2_with (go_at_call 83; go_in)
    refine (needed_any _ _ (by omega) (by omega)).mono ?_
    rintro e w' ⟨rfl, rfl⟩
    rw [hn2]
    go_wp2_with fail
    go_end0
    have eI : I + 1 = ((i + 1 : Nat) : Int) := by have := HI.out; omega
    have hbk := (H3.out.set 1 (.slice (some ⟨g, 0, none⟩) l l)).set 0 (.int .u64 (I + 1))
    have ho := H4.out
    have hg2 := H2.out
    have hp1 := H1.out
    have ho2 := ownsRow_setCell_other (ownsRow_setCell_other ho (a := ⟨p, 1, none⟩) (by simpa [Value.ownBlock] using hg2) (.slice (some ⟨g, 0, none⟩) l l)) (a := ⟨p, 0, none⟩) (by simpa [Value.ownBlock] using hg2) (.int .u64 ((i + 1 : Nat) : Int))
    rw [eI] at hbk ⊢
    refine ⟨rfl, ws, l, ⟨g, hp1, hg2, ?_, ?_, H5.out⟩, HL.out, fun j => rfl, ((Below.refl _ _).setCell hp1 _).setCell hp1 _, only_two (only_refl _ _) _ _, fun a n9 c9 hq => ?_⟩
    · rw [HL.out]; exact hbk
    · rw [HL.out]; exact ho2
    · have hc := hbk.cell 1 (v := .slice (some ⟨g, 0, none⟩) l l) rfl
      rw [hc] at hq
      left
      simp only [Option.some.injEq, Value.slice.injEq] at hq
      rw [HL.out, ← hq.1]; exact c1
  · have hlt : l < n := by omega
    go_enter Try.func76, Try.ntmps76
    go_wp2_with (go_at_call 83; go_in)
    refine (needed_any _ _ (by omega) (by omega)).mono ?_
    rintro e w' ⟨rfl, rfl⟩
    rw [hn2]
    go_wp2_with (first | (at_make; refine wpList_make2 rfl _ _ 37 rfl w.heap.size 52 (.int .u64 0) 8 Try.underlying37 info_w64 rfl _ _ _ _ n (2 * n) rfl rfl rfl (by go_num) (by omega) (by omega) (by unfold maxLen; omega) (Nat.le_refl _) ?_; intro w1 hown1 hb1 hs1; have bk := H3.out.below hb1 H3.out.lt; have d1 : w1.cell? ⟨p, 1, none⟩ = some (.slice (some ⟨g, 0, none⟩) l l) := bk.cell 1 rfl; have d0 : w1.cell? ⟨p, 0, none⟩ = some (.int .u64 (L : Int)) := bk.cell 0 rfl; have e0 := bk.free 0; have e1 := bk.free 1; have HBK := Lib.hid bk; clear bk) | (refine wpList_copySl rfl _ _ 37 37 rfl w.heap.size 52 (.int .u64 0) 8 Try.underlying37 info_w64 _ n (2 * n) _ rfl hown1 _ (u64s ws) rfl ((Sl.of_owns H4.out).below rfl hb1) (by rw [u64s_len, HL.out]; omega) (u64_cells _) ?_; intro w2 hown2 hg2 hb2; have bk2 := HBK.out.below hb2 H3.out.lt; have q1 : w2.cell? ⟨p, 1, none⟩ = some (.slice (some ⟨g, 0, none⟩) l l) := bk2.cell 1 rfl; have q0 : w2.cell? ⟨p, 0, none⟩ = some (.int .u64 (L : Int)) := bk2.cell 0 rfl; have z0 := bk2.free 0; have z1 := bk2.free 1; have HBK2 := Lib.hid bk2; clear bk2))
    go_end0
    have hbb := hb1.trans hb2
    have hpw := H3.out.lt
    have hz2 := hb2.size
    have hp1 := H1.out
    have eI : I + 1 = ((i + 1 : Nat) : Int) := by have := HI.out; omega
    have er : u64s ws ++ (List.replicate n (Value.int .u64 0)).drop (u64s ws).length = u64s (ws ++ List.replicate (n - l) 0) := by
      rw [u64s_len, HL.out, List.drop_replicate]; simp [u64s]
    have el : (ws ++ List.replicate (n - l) 0).length = n := by rw [List.length_append, HL.out, List.length_replicate]; omega
    rw [er] at hown2
    have hbk := (HBK2.out.set 1 (.slice (some ⟨w.heap.size, 0, none⟩) n (2 * n))).set 0 (.int .u64 (I + 1))
    rw [eI] at hbk ⊢
    have ho := ownsRow_setCell_below (ownsRow_setCell_below hown2 (a := ⟨p, 1, none⟩) hpw (.slice (some ⟨w.heap.size, 0, none⟩) n (2 * n))) (a := ⟨p, 0, none⟩) hpw (.int .u64 ((i + 1 : Nat) : Int))
    refine ⟨rfl, ws ++ List.replicate (n - l) 0, 2 * n, ⟨w.heap.size, H1.out, by omega, ?_, ?_, ?_⟩, el, fun j => Bsm.bit_append_zeros ws _ j, ((hbb.mono hBw).setCell hp1 _).setCell hp1 _, only_two (only_of_below hbb _) _ _, fun a n9 c9 hq => ?_⟩
    · rw [el]; exact hbk
    · rw [el]; exact ownsRow_weaken ho hBw
    · intro x hx
      rcases List.mem_append.1 hx with h | h
      · exact H5.out x h
      · have := List.eq_of_mem_replicate h; omega
    · have hc := hbk.cell 1 (v := .slice (some ⟨w.heap.size, 0, none⟩) n (2 * n)) rfl
      rw [hc] at hq
      right
      simp only [Option.some.injEq, Value.slice.injEq] at hq
      rw [← hq.1]; exact Nat.le_refl _

theorem extend_any (B p L i : Nat) (I : Int) (hI : I = i) (ws : List Nat) (w : World) (hb : Bs B w p L ws ws.length) (hwl : ws.length = (L + 63) / 64) (hi : L ≤ i) (hi2 : i ≤ 100000) (hBw : B ≤ w.heap.size) :
    Calls Try.prog 76 #[.pointer (some ⟨p, 0, none⟩), .int .u64 I] w fun e w' => e = .returned (.tuple #[]) ∧
      ∃ ws' cap', Bs B w' p (i + 1) ws' cap' ∧ ws'.length = (i + 64) / 64 ∧ (∀ j, Bsm.bit ws' j = Bsm.bit ws j) ∧ Below B w w' :=
  (extend_far B p L i I hI ws w hb hwl hi hi2 hBw).mono fun _ _ ⟨he, ws', cap', h1, h2, h3, h4, _, _⟩ => ⟨he, ws', cap', h1, h2, h3, h4⟩
end Go.Proofs.Ytbcbkieebelleaa
