/- Walks of (*BitSet).Copy and CopyFull. -/
import Derived.Test.YtbcbkieebelleaaBsInter
import Derived.Test.YtbcbkieebelleaaBsDelete
import Derived.Test.YtbcbkieebelleaaBsWhole
import Derived.Outline
namespace Go.Proofs.Ytbcbkieebelleaa
set_option linter.unusedVariables false
open Go.RowKit

/-- copy(d, s): d the call's own, s any slice -/
theorem wpList_copyMin {P : Program} {w : World} {ops : Array Oper} {rest : List Oper} {o : Oper} {a : Act} {Q : Exit → Act → World → Prop} (hgd : o.guard = none) (d s : Operand) (dT sT : TypeId)
    (ho : o.op = .call { callee := .builtin .copy, args := #[d, s], argTypes := #[dT, sT] }) (base : Nat) (e : TypeId) (z : Value) (bytes : Nat) (hu : P.underlying dT = some (.slice e)) (hi : (P.info? e).map (fun i => (i.zero, i.size, i.bytes)) = some (some z, 1, bytes))
    (g n cap : Nat) (xs : List Value) (hd : a.eval d = .slice (some ⟨g, 0, none⟩) n cap) (hown : w.ownsRow base e 1 (.slice (some ⟨g, 0, none⟩) n cap) n xs)
    (sv : Value) (vs : List Value) (hs : a.eval s = sv) (hsl : Sl w sv vs) (k : Nat) (hk : k = min vs.length n) (h1 : ∀ u ∈ vs, u.oneCell' = true)
    (h : ∀ w', w'.ownsRow base e 1 (.slice (some ⟨g, 0, none⟩) n cap) n (vs.take k ++ xs.drop k) → w.grownBy w' (some g) → Below base w w' → wpList P ops Q rest (a.put o.dst (goInt k)) w') :
    wpList P ops Q (o :: rest) a w := by
  obtain ⟨i, h2, h3, h4, h5⟩ := info_parts hi
  have hsz : (P.info? e).map (·.size) = some 1 := by rw [h2]; simp [h4]
  obtain ⟨ad, m, cap2, rfl, hl, hmc, hcm, hr⟩ := hsl
  have hlen := hown.1
  by_cases hm : k = 0
  · rw [hm] at hk h
    refine wpList_copy_nothing hgd d s dT sT ho e hu hsz _ _ _ _ _ _ hd hs (by show min m n = 0; omega) ?_
    exact h w (by simpa using hown) ⟨rfl, rfl, rfl, Nat.le_refl _, fun _ _ _ => rfl⟩ (Below.refl _ _)
  · obtain ⟨b, off, rfl, hcell⟩ := hr (by omega)
    rcases hown.2 with ⟨e0, _⟩ | ⟨g', cap', cur, e0, hbg, hg, hnc, hcmx, hcs, htake⟩
    · simp at e0
    · simp only [Value.slice.injEq, Option.some.injEq, Addr.mk.injEq, and_true, true_and] at e0
      obtain ⟨rfl, rfl⟩ := e0
      have hkl : (vs.take k).length = k := by rw [List.length_take]; omega
      have hget : ∀ j v, (vs.take k)[j]? = some v → vs[j]? = some v := fun j v hj => by
        rw [List.getElem?_take] at hj
        split at hj
        · exact hj
        · cases hj
      refine wpList_copy_own hgd d s dT sT ho e hu hsz g 0 n cap ⟨b, off, none⟩ m cap2 hd hs cur e hg (vs.take k) (by rw [hkl]; show k = min m n; omega) (fun j v hj => by rw [addr_add]; exact hcell j v (hget j v hj)) (by rw [hkl]; omega) (fun v hv => h1 v (List.mem_of_mem_take hv)) ?_
      simp only [List.take_zero, List.nil_append, Nat.zero_add, hkl]
      refine h _ ⟨?_, .inr ⟨g, cap, _, rfl, hbg, setRow_heap w g _ _ e _ hg, hnc, hcmx, ?_, ?_⟩⟩ ⟨rfl, rfl, rfl, by simp [World.setRow], fun k hk hne => setRow_other w g k _ (fun e => hne (by rw [e]))⟩ (below_setRow (Below.refl _ _) hbg _)
      · rw [Nat.mul_one] at hlen ⊢; rw [List.length_append, hkl, List.length_drop]; omega
      · rw [List.size_toArray, List.length_append, hkl, List.length_drop]; simp; omega
      · rw [Nat.mul_one] at htake hlen ⊢
        simp only [List.toList_toArray]
        rw [← htake, List.take_append, hkl, List.take_of_length_le (by rw [hkl]; omega), List.drop_take]
-- WALKS

theorem Bs.parts {B p L : Nat} {ws : List Nat} {cap : Nat} {w : World} (h : Bs B w p L ws cap) : ∃ g n, ws.length = n ∧ B ≤ p ∧ g ≠ p ∧ B ≤ g ∧ g < w.heap.size ∧ p < w.heap.size ∧ n ≤ cap ∧ Blk w p 91 #[.int .u64 (L : Int), .slice (some ⟨g, 0, none⟩) n cap] ∧
    w.ownsRow B 52 1 (.slice (some ⟨g, 0, none⟩) n cap) n (u64s ws) ∧ ∀ x ∈ ws, x < 18446744073709551616 := by
  obtain ⟨g, h1, h2, h3, h4, h5⟩ := h
  exact ⟨g, ws.length, rfl, h1, h2, (h4.lt g rfl).1, (h4.lt g rfl).2, h3.lt, ownsRow_cap h4, h3, h4, h5⟩

set_option maxRecDepth 100000 in
set_option maxHeartbeats 2000000 in
/-- Copy of p2 (longer or shorter) into p -/
theorem copy_any (B B2 p p2 L L2 : Nat) (ws ws2 : List Nat) (cap cap2 : Nat) (w : World) (hb : Bs B w p L ws cap) (hb2 : Bs B2 w p2 L2 ws2 cap2) (hwl : ws.length = (L + 63) / 64) (hwl2 : ws2.length = (L2 + 63) / 64)
    (hL : L ≤ 10000) (hL2 : L2 ≤ 10000) (hu : Under B2 p w) (hok : L ≤ L2 ∨ (L % 64 = 0 ∧ L2 % 64 = 0)) :
    Calls Try.prog 42 #[.pointer (some ⟨p2, 0, none⟩), .pointer (some ⟨p, 0, none⟩)] w fun e w' => e = .returned (.int .u64 ((min L2 L : Nat) : Int)) ∧
      ∃ ws', Bs B w' p L ws' cap ∧ ws'.length = ws.length ∧ (∀ j, j < L → Bsm.bit ws' j = if j < L2 then Bsm.bit ws2 j else Bsm.bit ws j) ∧ Below B w w' := by
  obtain ⟨g, n, hn, h1, h2, h3, h4, h5, h6, h7, h8, h9⟩ := hb.parts
  obtain ⟨g2, n2, hn2, i1, i2, i3, i4, i5, i6, i7, i8, i9⟩ := hb2.parts
  have c1 : w.cell? ⟨p, 1, none⟩ = some (.slice (some ⟨g, 0, none⟩) n cap) := h7.cell 1 rfl
  have c0 : w.cell? ⟨p, 0, none⟩ = some (.int .u64 (L : Int)) := h7.cell 0 rfl
  have d1 : w.cell? ⟨p2, 1, none⟩ = some (.slice (some ⟨g2, 0, none⟩) n2 cap2) := i7.cell 1 rfl
  have d0 : w.cell? ⟨p2, 0, none⟩ = some (.int .u64 (L2 : Int)) := i7.cell 0 rfl
  have hgB : g < B2 := hu.2 _ _ _ c1
  have hpB := hu.1
  have hgp2 : g ≠ p2 := by omega
  have hn7 : n ≤ 1000 := by omega
  have hn27 : n2 ≤ 1000 := by omega
  obtain ⟨k, hk⟩ : ∃ k, min n2 n = k := ⟨_, rfl⟩
  have hvl : (ws2.take k ++ ws.drop k).length = n := by rw [List.length_append, List.length_take, List.length_drop]; omega
  have hbits : ∀ j, j < L → Bsm.bit (ws2.take k ++ ws.drop k) j = if j < L2 then Bsm.bit ws2 j else Bsm.bit ws j := by
    intro j hj
    have hkk : (ws2.take k).length = k := by rw [List.length_take]; omega
    unfold Bsm.bit
    simp only [List.getD_eq_getElem?_getD]
    by_cases hjk : j / 64 < k
    · rw [List.getElem?_append_left (by omega), List.getElem?_take, if_pos hjk, if_pos (by omega)]
    · rw [List.getElem?_append_right (by omega), hkk, List.getElem?_drop, if_neg (by omega)]
      rw [show k + (j / 64 - k) = j / 64 from by omega]
  have H7 := Lib.hid h7
  have H8 := Lib.hid h8
  have H9 := Lib.hid h9
  have I7 := Lib.hid i7
  have HS := Lib.hid (Sl.of_owns i8)
  have I9 := Lib.hid i9
  have HN := Lib.hid hn
  have HN2 := Lib.hid hn2
  have HWL := Lib.hid hwl
  have HVL := Lib.hid hvl
  have HBITS := Lib.hid hbits
  have HK := Lib.hid hk
  clear hb hb2 h7 h8 h9 i7 i8 i9 hn hn2 hwl hwl2 hu hok hvl hbits hk
  go_enter Try.func42, Try.ntmps42
  go_wp2_with fail
  refine wp_region_still_tail 8 (by kernel_rfl) (by kernel_rfl) ?_
  simp only [List.take_succ_cons, List.take_zero, List.drop_succ_cons, List.drop_zero]
  repeat still_step
  refine wpStill_nil ?_
  change wpList _ _ _ _ _ w.drew
  refine wpList_copyMin rfl _ _ 37 37 rfl B 52 (.int .u64 0) 8 Try.underlying37 info_w64 g n cap (u64s ws) rfl H8.out (.slice (some ⟨g2, 0, none⟩) n2 cap2) (u64s ws2) rfl (HS.out.below rfl (Below.refl _ _).drew) k (by rw [u64s_len, HN2.out, HK.out]) (u64_cells _) ?_
  intro w2 hown2 hg2 hb2
  have hblk2 : Blk w2 p 91 #[.int .u64 (L : Int), .slice (some ⟨g, 0, none⟩) n cap] := (H7.out.drew).grown hg2 (by simpa using h2)
  have hsrc2 : Blk w2 p2 91 #[.int .u64 (L2 : Int), .slice (some ⟨g2, 0, none⟩) n2 cap2] := (I7.out.drew).grown hg2 (by simpa using hgp2)
  rw [show (u64s ws2).take k ++ (u64s ws).drop k = u64s (ws2.take k ++ ws.drop k) from by simp [u64s, List.map_take, List.map_drop]] at hown2
  have e0 : w2.cell? ⟨p, 0, none⟩ = some (.int .u64 (L : Int)) := hblk2.cell 0 rfl
  have e1 : w2.cell? ⟨p2, 0, none⟩ = some (.int .u64 (L2 : Int)) := hsrc2.cell 0 rfl
  have hbs2 : Bs B w2 p L (ws2.take k ++ ws.drop k) cap := by
    refine ⟨g, h1, h2, by rw [HVL.out]; exact hblk2, by rw [HVL.out]; exact hown2, fun x hx => ?_⟩
    rcases List.mem_append.1 hx with h | h
    · exact I9.out x (List.mem_of_mem_take h)
    · exact H9.out x (List.mem_of_mem_drop h)
  have HBS2 := Lib.hid hbs2
  have HBEL := Lib.hid ((Below.refl B w).drew.trans hb2)
  clear hblk2 hsrc2 hown2 hg2 hb2 hbs2 c0 c1 d0 d1
  by_cases hlt : (L2 : Int) < (L : Int)
  · have hd : decide ((L2 : Int) < (L : Int)) = true := by simpa using hlt
    go_wp2_with fail
    go_quiet (fail)
    go_wp2_with fail
    refine (clean_any B p L _ cap _ (HBS2.out.drewN _) (by rw [HVL.out]; have := HWL.out; rw [HN.out] at this; exact this) (by omega)).mono ?_
    rintro e w3 ⟨rfl, ws3, hb3, hl3, hbit3, hbel3⟩
    have HB3 := Lib.hid hb3
    have HBIT3 := Lib.hid hbit3
    clear hb3 hbit3
    go_wp2_with fail
    go_ret
    refine ⟨ret_int (by omega), ws3, HB3.out, by rw [hl3, HVL.out, HN.out], fun j hj => by rw [HBIT3.out, HBITS.out j hj]; simp [hj], (below_drewN HBEL.out _).trans hbel3⟩
  · have hd : decide ((L2 : Int) < (L : Int)) = false := by simpa using hlt
    go_wp2_with fail
    go_quiet (fail)
    go_wp2_with fail
    refine (clean_any B p L _ cap _ (HBS2.out.drewN _) (by rw [HVL.out]; have := HWL.out; rw [HN.out] at this; exact this) (by omega)).mono ?_
    rintro e w3 ⟨rfl, ws3, hb3, hl3, hbit3, hbel3⟩
    have HB3 := Lib.hid hb3
    have HBIT3 := Lib.hid hbit3
    clear hb3 hbit3
    go_wp2_with fail
    go_ret
    refine ⟨ret_int (by omega), ws3, HB3.out, by rw [hl3, HVL.out, HN.out], fun j hj => by rw [HBIT3.out, HBITS.out j hj]; simp [hj], (below_drewN HBEL.out _).trans hbel3⟩

set_option maxRecDepth 100000 in
set_option maxHeartbeats 2000000 in
theorem full_zero (B B2 p p2 L L2 : Nat) (ws ws2 : List Nat) (cap cap2 : Nat) (w : World) (hb : Bs B w p L ws cap) (hb2 : Bs B2 w p2 L2 ws2 cap2)
    (hn9 : ws2.length ≤ 1000) (hL2 : L2 ≤ 10000) (hBw : B ≤ w.heap.size) (hu : Under B2 p w) (h0 : ws2.length = 0) :
    Calls Try.prog 40 #[.pointer (some ⟨p2, 0, none⟩), .pointer (some ⟨p, 0, none⟩)] w fun e w' => e = .returned (.tuple #[]) ∧
      ∃ cap', Bs B w' p L2 ws2 cap' ∧ Below B w w' := by
  obtain ⟨g, n, hn, h1, h2, h3, h4, h5, h6, h7, h8, h9⟩ := hb.parts
  obtain ⟨g2, n2, hn2, i1, i2, i3, i4, i5, i6, i7, i8, i9⟩ := hb2.parts
  have c1 : w.cell? ⟨p, 1, none⟩ = some (.slice (some ⟨g, 0, none⟩) n cap) := h7.cell 1 rfl
  have c0 : w.cell? ⟨p, 0, none⟩ = some (.int .u64 (L : Int)) := h7.cell 0 rfl
  have d1 : w.cell? ⟨p2, 1, none⟩ = some (.slice (some ⟨g2, 0, none⟩) n2 cap2) := i7.cell 1 rfl
  have d0 : w.cell? ⟨p2, 0, none⟩ = some (.int .u64 (L2 : Int)) := i7.cell 0 rfl
  have f0 := h7.free 0
  have f1 := h7.free 1
  have hgB : g < B2 := hu.2 _ _ _ c1
  have hpB := hu.1
  have hgp2 : g ≠ p2 := by omega
  have hpp : ¬ p = p2 := by omega
  have hpp2 : ¬ p2 = p := by omega
  rw [hn2] at hn9
  have hcm : cap ≤ maxLen := by
    obtain ⟨_, _, _, e, _, _, hcm, _⟩ := Sl.of_owns h8
    simp only [Value.slice.injEq] at e
    omega
  have H7 := Lib.hid h7
  have H8 := Lib.hid h8
  have I7 := Lib.hid i7
  have HS := Lib.hid (Sl.of_owns i8)
  have I9 := Lib.hid i9
  have I8 := Lib.hid i8
  have HN2 := Lib.hid hn2
  have HN1 := Lib.hid hn
  clear hb hb2 h7 h8 h9 i7 i8 i9 hn hn2 hu
  have hblkA : Blk (w.setCell ⟨p, 0, none⟩ (.int .u64 (L2 : Int))) p 91 #[.int .u64 (L2 : Int), .slice (some ⟨g, 0, none⟩) n cap] := by simpa using H7.out.set 0 (.int .u64 (L2 : Int))
  have hsrcA : Blk (w.setCell ⟨p, 0, none⟩ (.int .u64 (L2 : Int))) p2 91 #[.int .u64 (L2 : Int), .slice (some ⟨g2, 0, none⟩) n2 cap2] := I7.out.other (by simpa using hpp2) _
  have hownA : (w.setCell ⟨p, 0, none⟩ (.int .u64 (L2 : Int))).ownsRow B 52 1 (.slice (some ⟨g, 0, none⟩) n cap) n (u64s ws) := H8.out.kept (only_setCell (only_refl w (some p)) (.inl rfl) _) (.inr (by simpa [Value.ownBlock] using h2))
  have hslA : (w.setCell ⟨p, 0, none⟩ (.int .u64 (L2 : Int))).ownsRow B2 52 1 (.slice (some ⟨g2, 0, none⟩) n2 cap2) n2 (u64s ws2) := I8.out.kept (only_setCell (only_refl w (some p)) (.inl rfl) _) (.inr (by simp [Value.ownBlock]; omega))
  have hbelA : Below B w (w.setCell ⟨p, 0, none⟩ (.int .u64 (L2 : Int))) := (Below.refl _ _).setCell h1 _
  have HA := Lib.hid hblkA
  have HSA := Lib.hid hsrcA
  have HOA := Lib.hid hownA
  have HBA := Lib.hid hbelA
  have HLA := Lib.hid hslA
  clear hblkA hsrcA hownA hbelA hslA
  go_enter Try.func40, Try.ntmps40
  have hn20 : n2 = 0 := by rw [← HN2.out]; exact h0
  obtain rfl : ws2 = [] := List.eq_nil_of_length_eq_zero h0
  clear h0
  subst hn20
  have hsl := fun W => run_slice_to (some ⟨g, 0, none⟩) n cap 0 .i64 0 rfl (by omega) W
  go_wp2_with fail
  go_end0
  have hblk2 : Blk ((w.setCell ⟨p, 0, none⟩ (.int .u64 (L2 : Int))).setCell ⟨p, 1, none⟩ (.slice (some ⟨g, 0, none⟩) 0 cap)) p 91 #[.int .u64 (L2 : Int), .slice (some ⟨g, 0, none⟩) 0 cap] := by simpa using HA.out.set 1 (.slice (some ⟨g, 0, none⟩) 0 cap)
  have hown2 := ownsRow_cut (HOA.out.kept (only_setCell (only_refl _ (some p)) (.inl rfl) (.slice (some ⟨g, 0, none⟩) 0 cap) : (w.setCell ⟨p, 0, none⟩ (.int .u64 (L2 : Int))).grownBy ((w.setCell ⟨p, 0, none⟩ (.int .u64 (L2 : Int))).setCell ⟨p, 1, none⟩ (.slice (some ⟨g, 0, none⟩) 0 cap)) (some p)) (.inr (by simpa [Value.ownBlock] using h2))) 0 (by omega)
  rw [List.take_zero] at hown2
  exact ⟨rfl, cap, ⟨g, h1, h2, hblk2, hown2, by simp⟩, (HBA.out).setCell h1 _⟩

set_option maxRecDepth 100000 in
set_option maxHeartbeats 2000000 in
theorem full_new (B B2 p p2 L L2 : Nat) (ws ws2 : List Nat) (cap cap2 : Nat) (w : World) (hb : Bs B w p L ws cap) (hb2 : Bs B2 w p2 L2 ws2 cap2)
    (hn9 : ws2.length ≤ 1000) (hL2 : L2 ≤ 10000) (hBw : B ≤ w.heap.size) (hu : Under B2 p w) (h0 : 0 < ws2.length) (hcl : cap < ws2.length) :
    Calls Try.prog 40 #[.pointer (some ⟨p2, 0, none⟩), .pointer (some ⟨p, 0, none⟩)] w fun e w' => e = .returned (.tuple #[]) ∧
      ∃ cap', Bs B w' p L2 ws2 cap' ∧ Below B w w' := by
  obtain ⟨g, n, hn, h1, h2, h3, h4, h5, h6, h7, h8, h9⟩ := hb.parts
  obtain ⟨g2, n2, hn2, i1, i2, i3, i4, i5, i6, i7, i8, i9⟩ := hb2.parts
  have c1 : w.cell? ⟨p, 1, none⟩ = some (.slice (some ⟨g, 0, none⟩) n cap) := h7.cell 1 rfl
  have c0 : w.cell? ⟨p, 0, none⟩ = some (.int .u64 (L : Int)) := h7.cell 0 rfl
  have d1 : w.cell? ⟨p2, 1, none⟩ = some (.slice (some ⟨g2, 0, none⟩) n2 cap2) := i7.cell 1 rfl
  have d0 : w.cell? ⟨p2, 0, none⟩ = some (.int .u64 (L2 : Int)) := i7.cell 0 rfl
  have f0 := h7.free 0
  have f1 := h7.free 1
  have hgB : g < B2 := hu.2 _ _ _ c1
  have hpB := hu.1
  have hgp2 : g ≠ p2 := by omega
  have hpp : ¬ p = p2 := by omega
  have hpp2 : ¬ p2 = p := by omega
  rw [hn2] at hn9
  have hcm : cap ≤ maxLen := by
    obtain ⟨_, _, _, e, _, _, hcm, _⟩ := Sl.of_owns h8
    simp only [Value.slice.injEq] at e
    omega
  have H7 := Lib.hid h7
  have H8 := Lib.hid h8
  have I7 := Lib.hid i7
  have HS := Lib.hid (Sl.of_owns i8)
  have I9 := Lib.hid i9
  have I8 := Lib.hid i8
  have HN2 := Lib.hid hn2
  have HN1 := Lib.hid hn
  clear hb hb2 h7 h8 h9 i7 i8 i9 hn hn2 hu
  have hblkA : Blk (w.setCell ⟨p, 0, none⟩ (.int .u64 (L2 : Int))) p 91 #[.int .u64 (L2 : Int), .slice (some ⟨g, 0, none⟩) n cap] := by simpa using H7.out.set 0 (.int .u64 (L2 : Int))
  have hsrcA : Blk (w.setCell ⟨p, 0, none⟩ (.int .u64 (L2 : Int))) p2 91 #[.int .u64 (L2 : Int), .slice (some ⟨g2, 0, none⟩) n2 cap2] := I7.out.other (by simpa using hpp2) _
  have hownA : (w.setCell ⟨p, 0, none⟩ (.int .u64 (L2 : Int))).ownsRow B 52 1 (.slice (some ⟨g, 0, none⟩) n cap) n (u64s ws) := H8.out.kept (only_setCell (only_refl w (some p)) (.inl rfl) _) (.inr (by simpa [Value.ownBlock] using h2))
  have hslA : (w.setCell ⟨p, 0, none⟩ (.int .u64 (L2 : Int))).ownsRow B2 52 1 (.slice (some ⟨g2, 0, none⟩) n2 cap2) n2 (u64s ws2) := I8.out.kept (only_setCell (only_refl w (some p)) (.inl rfl) _) (.inr (by simp [Value.ownBlock]; omega))
  have hbelA : Below B w (w.setCell ⟨p, 0, none⟩ (.int .u64 (L2 : Int))) := (Below.refl _ _).setCell h1 _
  have HA := Lib.hid hblkA
  have HSA := Lib.hid hsrcA
  have HOA := Lib.hid hownA
  have HBA := Lib.hid hbelA
  have HLA := Lib.hid hslA
  clear hblkA hsrcA hownA hbelA hslA
  go_enter Try.func40, Try.ntmps40
  have hn20 : ¬ (n2 : Int) = 0 := by have := HN2.out; omega
  have hcl2 : cap < n2 := by rw [← HN2.out]; exact hcl
  have hd : decide ((cap : Int) < (n2 : Int)) = true := by simp; omega
  clear h0 hcl
  go_wp2_with fail
  obtain ⟨wA, hwA⟩ : ∃ wA, wA = w.setCell ⟨p, 0, none⟩ (.int .u64 (L2 : Int)) := ⟨_, rfl⟩
  have hsA : wA.heap.size = w.heap.size := by rw [hwA]; simp [World.setCell]
  rw [← hwA] at HA HSA HOA HLA HBA ⊢
  clear hwA c0 c1 d0 d1 f0 f1
  have c1 : wA.cell? ⟨p, 1, none⟩ = some (.slice (some ⟨g, 0, none⟩) n cap) := HA.out.cell 1 rfl
  have d1 : wA.cell? ⟨p2, 1, none⟩ = some (.slice (some ⟨g2, 0, none⟩) n2 cap2) := HSA.out.cell 1 rfl
  have f1 := HA.out.free 1
  have hcm6 : (cap : Int) ≤ 9223372036854775807 := by unfold maxLen at hcm; omega
  go_quiet (fail)
  obtain ⟨B9, hB9⟩ : ∃ B9, B9 = wA.heap.size := ⟨_, rfl⟩
  go_wp2_with (at_make; refine wpList_make1 rfl _ _ 37 rfl wA.heap.size 52 (.int .u64 0) 8 Try.underlying37 info_w64 rfl _ _ _ _ n2 rfl rfl rfl rfl (by omega) (by unfold maxLen; omega) (by simp) ?_; intro w1 hown1 hb1 hs1; have bk := (HA.out.drewN _).below hb1 (by simp; omega); have e1 : w1.cell? ⟨p, 1, none⟩ = some (.slice (some ⟨g, 0, none⟩) n cap) := bk.cell 1 rfl; have e2 := bk.free 1; have HBK := Lib.hid bk; have HOWN1 := Lib.hid hown1; have HB1 := Lib.hid hb1; clear bk)
  obtain ⟨wC, hwC⟩ : ∃ wC, wC = w1.setCell ⟨p, 1, none⟩ (.slice (some ⟨w.heap.size, 0, none⟩) n2 n2) := ⟨_, rfl⟩
  have hsz1 : w.heap.size ≤ w1.heap.size := by have := HB1.out.size; simp at this; omega
  have ho1 := HOWN1.out
  rw [show (wA.drewN nq).heap.size = w.heap.size from hsA, hsA] at ho1
  have hb1' := HB1.out
  rw [show (wA.drewN nq).heap.size = w.heap.size from hsA] at hb1'
  have hbkC : Blk wC p 91 #[.int .u64 (L2 : Int), .slice (some ⟨w.heap.size, 0, none⟩) n2 n2] := by rw [hwC]; simpa using HBK.out.set 1 (.slice (some ⟨w.heap.size, 0, none⟩) n2 n2)
  have hownC : wC.ownsRow w.heap.size 52 1 (.slice (some ⟨w.heap.size, 0, none⟩) n2 n2) n2 (List.replicate n2 (.int .u64 0)) := by rw [hwC]; exact ownsRow_setCell_below ho1 (by simpa using h5) _
  have hs0 : (wA.drewN nq).ownsRow B2 52 1 (.slice (some ⟨g2, 0, none⟩) n2 cap2) n2 (u64s ws2) := HLA.out
  have hsrcC : Sl wC (.slice (some ⟨g2, 0, none⟩) n2 cap2) (u64s ws2) := by
    rw [hwC]
    exact Sl.of_owns ((ownsRow_below hs0 HB1.out).kept (only_setCell (only_refl _ (some p)) (.inl rfl) _) (.inr (by simp [Value.ownBlock]; omega)))
  have hsbC : Blk wC p2 91 #[.int .u64 (L2 : Int), .slice (some ⟨g2, 0, none⟩) n2 cap2] := by rw [hwC]; exact ((HSA.out.drewN nq).below hb1' (by omega)).other (by simpa using hpp2) _
  have hbelC : Below B w wC := by rw [hwC]; exact ((HBA.out.trans (((Below.refl _ _ : Below B wA wA).trans (below_drewN (Below.refl _ _) nq)).trans (hb1'.mono hBw))).setCell h1 _)
  have hwCs : w.heap.size < wC.heap.size := by rw [hwC]; have := hs1; simp [World.setCell] at *; omega
  rw [← hwC]
  have y1 : wC.cell? ⟨p, 1, none⟩ = some (.slice (some ⟨w.heap.size, 0, none⟩) n2 n2) := hbkC.cell 1 rfl
  have y2 : wC.cell? ⟨p2, 1, none⟩ = some (.slice (some ⟨g2, 0, none⟩) n2 cap2) := hsbC.cell 1 rfl
  have HBKC := Lib.hid hbkC
  have HOC := Lib.hid hownC
  have HSC := Lib.hid hsrcC
  have HBLC := Lib.hid hbelC
  clear hwC hbkC hownC hsrcC hsbC hbelC hown1 hb1 hb1' ho1 hs0 c1 d1 f1 e1 e2
  refine wp_region_still_tail 8 (by kernel_rfl) (by kernel_rfl) ?_
  simp only [List.take_succ_cons, List.take_zero, List.drop_succ_cons, List.drop_zero]
  repeat still_step
  refine wpStill_nil ?_
  change wpList _ _ _ _ _ wC.drew
  refine wpList_copySl rfl _ _ 37 37 rfl w.heap.size 52 (.int .u64 0) 8 Try.underlying37 info_w64 w.heap.size n2 n2 (List.replicate n2 (.int .u64 0)) rfl HOC.out (.slice (some ⟨g2, 0, none⟩) n2 cap2) (u64s ws2) rfl (HSC.out.below rfl (Below.refl _ _).drew) (by rw [u64s_len, HN2.out]; omega) (u64_cells _) ?_
  intro w2 hown2 hg2 hb2
  have er : u64s ws2 ++ (List.replicate n2 (Value.int .u64 0)).drop (u64s ws2).length = u64s ws2 := by
    rw [u64s_len, HN2.out, List.drop_eq_nil_of_le (by simp), List.append_nil]
  rw [er] at hown2
  have hbk2 := (HBKC.out.drew).grown hg2 (by simp; omega)
  go_wp2_with fail
  go_end0
  exact ⟨rfl, ⟨n2, w.heap.size, h1, by omega, by rw [HN2.out]; exact hbk2, by rw [HN2.out]; exact ownsRow_weaken hown2 hBw, I9.out⟩, (HBLC.out.drew).trans (hb2.mono hBw)⟩

set_option maxRecDepth 100000 in
set_option maxHeartbeats 2000000 in
theorem full_cut (B B2 p p2 L L2 : Nat) (ws ws2 : List Nat) (cap cap2 : Nat) (w : World) (hb : Bs B w p L ws cap) (hb2 : Bs B2 w p2 L2 ws2 cap2)
    (hn9 : ws2.length ≤ 1000) (hL2 : L2 ≤ 10000) (hBw : B ≤ w.heap.size) (hu : Under B2 p w) (h0 : 0 < ws2.length) (hcl : ws2.length ≤ ws.length) :
    Calls Try.prog 40 #[.pointer (some ⟨p2, 0, none⟩), .pointer (some ⟨p, 0, none⟩)] w fun e w' => e = .returned (.tuple #[]) ∧
      ∃ cap', Bs B w' p L2 ws2 cap' ∧ Below B w w' := by
  obtain ⟨g, n, hn, h1, h2, h3, h4, h5, h6, h7, h8, h9⟩ := hb.parts
  obtain ⟨g2, n2, hn2, i1, i2, i3, i4, i5, i6, i7, i8, i9⟩ := hb2.parts
  have c1 : w.cell? ⟨p, 1, none⟩ = some (.slice (some ⟨g, 0, none⟩) n cap) := h7.cell 1 rfl
  have c0 : w.cell? ⟨p, 0, none⟩ = some (.int .u64 (L : Int)) := h7.cell 0 rfl
  have d1 : w.cell? ⟨p2, 1, none⟩ = some (.slice (some ⟨g2, 0, none⟩) n2 cap2) := i7.cell 1 rfl
  have d0 : w.cell? ⟨p2, 0, none⟩ = some (.int .u64 (L2 : Int)) := i7.cell 0 rfl
  have f0 := h7.free 0
  have f1 := h7.free 1
  have hgB : g < B2 := hu.2 _ _ _ c1
  have hpB := hu.1
  have hgp2 : g ≠ p2 := by omega
  have hpp : ¬ p = p2 := by omega
  have hpp2 : ¬ p2 = p := by omega
  rw [hn2] at hn9
  have hcm : cap ≤ maxLen := by
    obtain ⟨_, _, _, e, _, _, hcm, _⟩ := Sl.of_owns h8
    simp only [Value.slice.injEq] at e
    omega
  have H7 := Lib.hid h7
  have H8 := Lib.hid h8
  have I7 := Lib.hid i7
  have HS := Lib.hid (Sl.of_owns i8)
  have I9 := Lib.hid i9
  have I8 := Lib.hid i8
  have HN2 := Lib.hid hn2
  have HN1 := Lib.hid hn
  clear hb hb2 h7 h8 h9 i7 i8 i9 hn hn2 hu
  have hblkA : Blk (w.setCell ⟨p, 0, none⟩ (.int .u64 (L2 : Int))) p 91 #[.int .u64 (L2 : Int), .slice (some ⟨g, 0, none⟩) n cap] := by simpa using H7.out.set 0 (.int .u64 (L2 : Int))
  have hsrcA : Blk (w.setCell ⟨p, 0, none⟩ (.int .u64 (L2 : Int))) p2 91 #[.int .u64 (L2 : Int), .slice (some ⟨g2, 0, none⟩) n2 cap2] := I7.out.other (by simpa using hpp2) _
  have hownA : (w.setCell ⟨p, 0, none⟩ (.int .u64 (L2 : Int))).ownsRow B 52 1 (.slice (some ⟨g, 0, none⟩) n cap) n (u64s ws) := H8.out.kept (only_setCell (only_refl w (some p)) (.inl rfl) _) (.inr (by simpa [Value.ownBlock] using h2))
  have hslA : (w.setCell ⟨p, 0, none⟩ (.int .u64 (L2 : Int))).ownsRow B2 52 1 (.slice (some ⟨g2, 0, none⟩) n2 cap2) n2 (u64s ws2) := I8.out.kept (only_setCell (only_refl w (some p)) (.inl rfl) _) (.inr (by simp [Value.ownBlock]; omega))
  have hbelA : Below B w (w.setCell ⟨p, 0, none⟩ (.int .u64 (L2 : Int))) := (Below.refl _ _).setCell h1 _
  have HA := Lib.hid hblkA
  have HSA := Lib.hid hsrcA
  have HOA := Lib.hid hownA
  have HBA := Lib.hid hbelA
  have HLA := Lib.hid hslA
  clear hblkA hsrcA hownA hbelA hslA
  go_enter Try.func40, Try.ntmps40
  have hn20 : ¬ (n2 : Int) = 0 := by have := HN2.out; omega
  have hcl3 : n2 ≤ n := by rw [← HN2.out, ← HN1.out]; exact hcl
  have hcl2 : n2 ≤ cap := by omega
  have hd : decide ((cap : Int) < (n2 : Int)) = false := by simp; omega
  clear h0 hcl
  go_wp2_with fail
  obtain ⟨wA, hwA⟩ : ∃ wA, wA = w.setCell ⟨p, 0, none⟩ (.int .u64 (L2 : Int)) := ⟨_, rfl⟩
  have hsA : wA.heap.size = w.heap.size := by rw [hwA]; simp [World.setCell]
  rw [← hwA] at HA HSA HOA HLA HBA ⊢
  clear hwA c0 c1 d0 d1 f0 f1
  have c1 : wA.cell? ⟨p, 1, none⟩ = some (.slice (some ⟨g, 0, none⟩) n cap) := HA.out.cell 1 rfl
  have d1 : wA.cell? ⟨p2, 1, none⟩ = some (.slice (some ⟨g2, 0, none⟩) n2 cap2) := HSA.out.cell 1 rfl
  have f1 := HA.out.free 1
  have hcm6 : (cap : Int) ≤ 9223372036854775807 := by unfold maxLen at hcm; omega
  go_quiet (fail)
  have hw2 : IntKind.i64.wrap (n2 : Int) = (n2 : Int) := by rw [IntKind.wrap_i64]; omega
  have hp0 : (0 : Int) ≤ (n2 : Int) := by omega
  have hp2 : (n2 : Int) ≤ (cap : Int) := by omega
  have hsl := fun W => run_slice_to (some ⟨g, 0, none⟩) n cap n2 .i64 (n2 : Int) rfl hcl2 W
  go_wp2_with fail
  obtain ⟨wB, hwB⟩ : ∃ wB, wB = wA.drewN nq := ⟨_, rfl⟩
  have HA2 : Hid (Blk wB p 91 #[.int .u64 (L2 : Int), .slice (some ⟨g, 0, none⟩) n cap]) := by rw [hwB]; exact HA.out.drewN nq
  have HSA2 : Hid (Blk wB p2 91 #[.int .u64 (L2 : Int), .slice (some ⟨g2, 0, none⟩) n2 cap2]) := by rw [hwB]; exact HSA.out.drewN nq
  have HOA2 : Hid (wB.ownsRow B 52 1 (.slice (some ⟨g, 0, none⟩) n cap) n (u64s ws)) := by rw [hwB]; exact HOA.out
  have HLA2 : Hid (wB.ownsRow B2 52 1 (.slice (some ⟨g2, 0, none⟩) n2 cap2) n2 (u64s ws2)) := by rw [hwB]; exact HLA.out
  have HBA2 : Hid (Below B w wB) := by rw [hwB]; exact below_drewN HBA.out nq
  rw [← hwB]
  clear hwB c1 d1 f1
  have c1 : wB.cell? ⟨p, 1, none⟩ = some (.slice (some ⟨g, 0, none⟩) n cap) := HA2.out.cell 1 rfl
  have d1 : wB.cell? ⟨p2, 1, none⟩ = some (.slice (some ⟨g2, 0, none⟩) n2 cap2) := HSA2.out.cell 1 rfl
  have f1 := HA2.out.free 1
  refine wp_region_still_tail 11 (by kernel_rfl) (by kernel_rfl) ?_
  simp only [List.take_succ_cons, List.take_zero, List.drop_succ_cons, List.drop_zero]
  repeat still_step
  refine wpStill_nil ?_
  change wpList _ _ _ _ _ wB.drew
  go_wp2_with fail
  obtain ⟨wC, hwC⟩ : ∃ wC, wC = wB.setCell ⟨p, 1, none⟩ (.slice (some ⟨g, 0, none⟩) n2 cap) := ⟨_, rfl⟩
  have hbkC : Blk wC p 91 #[.int .u64 (L2 : Int), .slice (some ⟨g, 0, none⟩) n2 cap] := by rw [hwC]; simpa using HA2.out.set 1 (.slice (some ⟨g, 0, none⟩) n2 cap)
  have hownC : wC.ownsRow B 52 1 (.slice (some ⟨g, 0, none⟩) n2 cap) n2 (u64s (ws.take n2)) := by
    rw [hwC]
    have := ownsRow_cut (HOA2.out.kept (only_setCell (only_refl wB (some p)) (.inl rfl) (.slice (some ⟨g, 0, none⟩) n2 cap) : wB.grownBy (wB.setCell ⟨p, 1, none⟩ (.slice (some ⟨g, 0, none⟩) n2 cap)) (some p)) (.inr (by simpa [Value.ownBlock] using h2))) n2 hcl3
    rwa [show (u64s ws).take n2 = u64s (ws.take n2) from by simp [u64s, List.map_take]] at this
  have hsrcC : Sl wC (.slice (some ⟨g2, 0, none⟩) n2 cap2) (u64s ws2) := by
    rw [hwC]
    exact Sl.of_owns (HLA2.out.kept (only_setCell (only_refl _ (some p)) (.inl rfl) _) (.inr (by simp [Value.ownBlock]; omega)))
  have hsbC : Blk wC p2 91 #[.int .u64 (L2 : Int), .slice (some ⟨g2, 0, none⟩) n2 cap2] := by rw [hwC]; exact HSA2.out.other (by simpa using hpp2) _
  have hbelC : Below B w wC := by rw [hwC]; exact HBA2.out.setCell h1 _
  rw [← hwC]
  obtain ⟨wD, hwD⟩ : ∃ wD, wD = wC.drew := ⟨_, rfl⟩
  have HBKC : Hid (Blk wD p 91 #[.int .u64 (L2 : Int), .slice (some ⟨g, 0, none⟩) n2 cap]) := by rw [hwD]; exact hbkC
  have HOC : Hid (wD.ownsRow B 52 1 (.slice (some ⟨g, 0, none⟩) n2 cap) n2 (u64s (ws.take n2))) := by rw [hwD]; exact hownC
  have HSC : Hid (Sl wD (.slice (some ⟨g2, 0, none⟩) n2 cap2) (u64s ws2)) := by rw [hwD]; exact hsrcC.below rfl (Below.refl _ _).drew
  have HSBC : Hid (Blk wD p2 91 #[.int .u64 (L2 : Int), .slice (some ⟨g2, 0, none⟩) n2 cap2]) := by rw [hwD]; exact hsbC
  have HBLC : Hid (Below B w wD) := by rw [hwD]; exact hbelC.drew
  rw [← hwD]
  clear hwD hwC hbkC hownC hsrcC hsbC hbelC c1 d1 f1 hsl
  have y1 : wD.cell? ⟨p, 1, none⟩ = some (.slice (some ⟨g, 0, none⟩) n2 cap) := HBKC.out.cell 1 rfl
  have y2 : wD.cell? ⟨p2, 1, none⟩ = some (.slice (some ⟨g2, 0, none⟩) n2 cap2) := HSBC.out.cell 1 rfl
  refine wp_region_still_tail 8 (by kernel_rfl) (by kernel_rfl) ?_
  simp only [List.take_succ_cons, List.take_zero, List.drop_succ_cons, List.drop_zero]
  repeat still_step
  refine wpStill_nil ?_
  change wpList _ _ _ _ _ wD.drew
  refine wpList_copySl rfl _ _ 37 37 rfl B 52 (.int .u64 0) 8 Try.underlying37 info_w64 g n2 cap (u64s (ws.take n2)) rfl HOC.out (.slice (some ⟨g2, 0, none⟩) n2 cap2) (u64s ws2) rfl (HSC.out.below rfl (Below.refl _ _).drew) (by rw [u64s_len, HN2.out]; omega) (u64_cells _) ?_
  intro w2 hown2 hg2 hb2
  have er : u64s ws2 ++ (u64s (ws.take n2)).drop (u64s ws2).length = u64s ws2 := by
    rw [u64s_len, HN2.out, List.drop_eq_nil_of_le (by rw [u64s_len, List.length_take]; omega), List.append_nil]
  rw [er] at hown2
  have hbk2 := (HBKC.out.drew).grown hg2 (by simpa using h2)
  go_wp2_with fail
  go_end0
  exact ⟨rfl, ⟨cap, g, h1, h2, by rw [HN2.out]; exact hbk2, by rw [HN2.out]; exact hown2, I9.out⟩, (HBLC.out.drew).trans hb2⟩
theorem full_any (B B2 p p2 L L2 : Nat) (ws ws2 : List Nat) (cap2 : Nat) (w : World) (hb : Bs B w p L ws ws.length) (hb2 : Bs B2 w p2 L2 ws2 cap2)
    (hn9 : ws2.length ≤ 1000) (hL2 : L2 ≤ 10000) (hBw : B ≤ w.heap.size) (hu : Under B2 p w) :
    Calls Try.prog 40 #[.pointer (some ⟨p2, 0, none⟩), .pointer (some ⟨p, 0, none⟩)] w fun e w' => e = .returned (.tuple #[]) ∧
      ∃ cap', Bs B w' p L2 ws2 cap' ∧ Below B w w' := by
  by_cases h0 : ws2.length = 0
  · exact full_zero B B2 p p2 L L2 ws ws2 _ cap2 w hb hb2 hn9 hL2 hBw hu h0
  · by_cases h : ws2.length ≤ ws.length
    · exact full_cut B B2 p p2 L L2 ws ws2 _ cap2 w hb hb2 hn9 hL2 hBw hu (by omega) h
    · exact full_new B B2 p p2 L L2 ws ws2 _ cap2 w hb hb2 hn9 hL2 hBw hu (by omega) (by omega)
end Go.Proofs.Ytbcbkieebelleaa
