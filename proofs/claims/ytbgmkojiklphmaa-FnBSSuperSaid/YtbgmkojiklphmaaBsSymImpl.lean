/- Walks of SymmetricDifferenceCardinality, impl.BSSymmetricDifference, BSInPlaceSymmetricDifference and BSSymmetricDifferenceCardinality. -/
import Derived.Test.YtbgmkojiklphmaaBsSym
import Derived.Test.YtbgmkojiklphmaaBsInterImpl
namespace Go.Proofs.Ytbgmkojiklphmaa
set_option linter.unusedVariables false
open Go.RowKit

theorem Sl.drop {w : World} {b off n cap : Nat} {xs : List Nat} (h : Sl w (.slice (some ⟨b, off, none⟩) n cap) (u64s xs)) (k : Nat) (hk : k < n) : Sl w (.slice (some ⟨b, off + k, none⟩) (n - k) (cap - k)) (u64s (xs.drop k)) := by
  obtain ⟨a, m, c, e, h1, h2, h3, h4⟩ := h
  simp only [Value.slice.injEq] at e
  obtain ⟨rfl, rfl, rfl⟩ := e
  refine ⟨_, _, _, rfl, by rw [u64s_len] at h1 ⊢; simp; omega, by omega, by omega, fun _ => ⟨b, off + k, rfl, fun i u hu => ?_⟩⟩
  obtain ⟨b', off', e, h5⟩ := h4 (by omega)
  simp only [Option.some.injEq, Addr.mk.injEq, and_true] at e
  obtain ⟨rfl, rfl⟩ := e
  have := h5 (k + i) u (by simpa [u64s] using hu)
  rwa [← Nat.add_assoc] at this

attribute [local irreducible] Pop.pc Bsm.cnt

set_option maxRecDepth 100000 in
set_option maxHeartbeats 4000000 in
theorem symcard_core (q q2 : Addr) (B B2 p p2 L L2 : Nat) (ws ws2 : List Nat) (cap cap2 : Nat) (w : World) (hb : Bs B w p L ws cap) (hb2 : Bs B2 w p2 L2 ws2 cap2) (hL : L2 ≤ 10000) (h : L ≤ L2)
    (hwl : ws.length = (L + 63) / 64) (hwl2 : ws2.length = (L2 + 63) / 64)
    (hs : Calls Try.prog 97 #[.pointer (some q), .pointer (some q2)] w fun e w' => e = .returned (.tuple #[.pointer (some ⟨p, 0, none⟩), .pointer (some ⟨p2, 0, none⟩)]) ∧ ∃ m, w' = w.drewN m) :
    Calls Try.prog 81 #[.pointer (some q), .pointer (some q2)] w fun e w' =>
      e = .returned (.int .u64 ((Bsm.cnt (Bsm.bit (List.zipWith (fun x y => x ^^^ y) ws ws2)) 0 (64 * ws.length) + Bsm.cnt (Bsm.bit (ws2.drop ws.length)) 0 (64 * (ws2.drop ws.length).length) : Nat) : Int)) ∧ ∃ m, w' = w.drewN m := by
  have HLT := Lib.hid hb.word_lt
  have HLT2 := Lib.hid hb2.word_lt
  obtain ⟨g, _, d1, hS, _⟩ := hb.sl
  obtain ⟨g2, _, d2, hS2, _⟩ := hb2.sl
  obtain ⟨n, hn⟩ : ∃ n, ws.length = n := ⟨_, rfl⟩
  obtain ⟨n2, hn2⟩ : ∃ n2, ws2.length = n2 := ⟨_, rfl⟩
  have hl2 : ws.length ≤ ws2.length := by omega
  have hl3 : ws.length ≤ 10000 := by omega
  have hl4 : (ws2.drop n).length ≤ 10000 := by simp; omega
  have hld : ∀ q, (ws2.drop n).getD q 0 < 18446744073709551616 := fun q => by
    have := HLT2.out (n + q)
    simpa [List.getD_eq_getElem?_getD, List.getElem?_drop] using this
  have hcap2 : n2 ≤ cap2 := by obtain ⟨a, m, c, e, _, h2, _⟩ := hS2; simp only [Value.slice.injEq] at e; omega
  have hcap3 : cap2 ≤ maxLen := by obtain ⟨a, m, c, e, _, h2, h3, _⟩ := hS2; simp only [Value.slice.injEq] at e; omega
  unfold maxLen at hcap3
  have hvl1 := Bsm.cnt_le (Bsm.bit (List.zipWith (fun x y => x ^^^ y) ws ws2)) 0 (64 * ws.length)
  have hvl2 := Bsm.cnt_le (Bsm.bit (ws2.drop n)) 0 (64 * (ws2.drop n).length)
  have hz1 : ws.length = 0 → Bsm.cnt (Bsm.bit (List.zipWith (fun x y => x ^^^ y) ws ws2)) 0 (64 * ws.length) = 0 := fun h => by rw [h]; exact Bsm.cnt_zero _ _
  have hz2 : ws2.length ≤ n → Bsm.cnt (Bsm.bit (ws2.drop n)) 0 (64 * (ws2.drop n).length) = 0 := fun h => by rw [List.drop_eq_nil_of_le h]; exact Bsm.cnt_zero _ _
  have hsd := fun hk => hS2.drop ws.length hk
  rw [hn] at hS d1 hvl1 hz1 hsd
  rw [hn2] at hS2 d2 hz2 hsd
  obtain ⟨V1, hV1⟩ : ∃ V : Nat, Bsm.cnt (Bsm.bit (List.zipWith (fun x y => x ^^^ y) ws ws2)) 0 (64 * ws.length) = V := ⟨_, rfl⟩
  obtain ⟨V2, hV2⟩ : ∃ V : Nat, Bsm.cnt (Bsm.bit (ws2.drop n)) 0 (64 * (ws2.drop n).length) = V := ⟨_, rfl⟩
  have hgoal : Bsm.cnt (Bsm.bit (List.zipWith (fun x y => x ^^^ y) ws ws2)) 0 (64 * ws.length) + Bsm.cnt (Bsm.bit (ws2.drop ws.length)) 0 (64 * (ws2.drop ws.length).length) = V1 + V2 := by rw [hV1, hn, hV2]
  rw [hgoal]
  have hV1' := hV1
  rw [hn] at hV1'
  rw [hV1'] at hvl1 hz1
  rw [hV2] at hvl2 hz2
  simp only [List.length_drop] at hvl2
  have hw1 : V1 ≤ 1000000 := by omega
  have hw2 : V2 ≤ 1000000 := by omega
  have HS := Lib.hid hS
  have HS2 := Lib.hid hS2
  have HSO := Lib.hid hs
  have HL2 := Lib.hid hl2
  have HL3 := Lib.hid hl3
  have HL4 := Lib.hid hl4
  have HLD := Lib.hid hld
  have HV1 := Lib.hid hV1
  have HV2 := Lib.hid hV2
  have hnn : n ≤ n2 := by omega
  have hn5 : n2 ≤ 10000 := by omega
  have hsum1 : IntKind.u64.wrap (V1 : Int) = (V1 : Int) := by rw [IntKind.wrap_u64]; omega
  have hsum2 : IntKind.u64.wrap (V2 : Int) = (V2 : Int) := by rw [IntKind.wrap_u64]; omega
  have hsum3 : IntKind.u64.wrap ((V1 : Int) + (V2 : Int)) = (V1 : Int) + (V2 : Int) := by rw [IntKind.wrap_u64]; omega
  by_cases h0 : n = 0
  · have HZ1 : Hid (V1 = 0) := hz1 h0
    have hd1 : decide (0 < n) = false := by simp; omega
    by_cases he : n < n2
    · have HZ2 : Hid (0 ≤ V2) := Nat.zero_le _
      have hd2 : decide (n < n2) = true := by simp; omega
      have hi1 : (0 : Int) ≤ (n : Int) := by omega
      have hi2 : (n : Int) ≤ (n2 : Int) := by omega
      have hi3 : (n2 : Int) ≤ (cap2 : Int) := by omega
      have hi4 : ¬ n = cap2 := by omega
      have HSD := Lib.hid (hsd he)
      rw [Nat.zero_add] at HSD
      clear h0 he
      clear hS hS2 hb hb2 hs hwl hwl2 hl2 hl3 hl4 hld hV1 hV1' hV2 hgoal hvl1 hvl2 hn hn2 hz1 hz2 hsd h hL
      go_enter Try.func81, Try.ntmps81
      go_wp2_with fail
      refine (notnull_any _ _).mono ?_
      rintro e w' ⟨rfl, rfl⟩
      go_wp2_with fail
      refine (notnull_any _ _).mono ?_
      rintro e w' ⟨rfl, rfl⟩
      go_wp2_with fail
      refine HSO.out.mono ?_
      rintro e w' ⟨rfl, nq, rfl⟩
      go_wp2_with fail
      go_quiet (fail)
      go_wp2_with fail
      go_quiet ((go_at_call 93; first | exact quiet_add (HV2.out ▸ popsl_any _ (ws2.drop n) _ (HSD.out.drewN _) HL4.out HLD.out) | exact Calls.quiet_of (HV2.out ▸ popsl_any _ (ws2.drop n) _ (HSD.out.drewN _) HL4.out HLD.out)))
      go_wp2_with fail
      go_ret
      exact ⟨ret_int (by have := HZ1.out; have := HZ2.out; omega), _, by first | rfl | (simp only [World.drewN_drewN]; rfl)⟩
    · have HZ2 : Hid (V2 = 0) := hz2 (by omega)
      have hd2 : decide (n < n2) = false := by simp; omega
      have HN0 := Lib.hid h0
      clear h0 he
      clear hS hS2 hb hb2 hs hwl hwl2 hl2 hl3 hl4 hld hV1 hV1' hV2 hgoal hvl1 hvl2 hn hn2 hz1 hz2 hsd h hL
      go_enter Try.func81, Try.ntmps81
      go_wp2_with fail
      refine (notnull_any _ _).mono ?_
      rintro e w' ⟨rfl, rfl⟩
      go_wp2_with fail
      refine (notnull_any _ _).mono ?_
      rintro e w' ⟨rfl, rfl⟩
      go_wp2_with fail
      refine HSO.out.mono ?_
      rintro e w' ⟨rfl, nq, rfl⟩
      go_wp2_with fail
      go_quiet (fail)
      go_wp2_with fail
      go_ret
      exact ⟨ret_int (by have := HZ1.out; have := HZ2.out; omega), _, by first | rfl | (simp only [World.drewN_drewN]; rfl)⟩
  · have HZ1 : Hid (0 ≤ V1) := Nat.zero_le _
    have hd1 : decide (0 < n) = true := by simp; omega
    have HL1 : Hid (0 < ws.length) := show _ < _ by omega
    by_cases he : n < n2
    · have HZ2 : Hid (0 ≤ V2) := Nat.zero_le _
      have hd2 : decide (n < n2) = true := by simp; omega
      have hi1 : (0 : Int) ≤ (n : Int) := by omega
      have hi2 : (n : Int) ≤ (n2 : Int) := by omega
      have hi3 : (n2 : Int) ≤ (cap2 : Int) := by omega
      have hi4 : ¬ n = cap2 := by omega
      have HSD := Lib.hid (hsd he)
      rw [Nat.zero_add] at HSD
      clear h0 he
      clear hS hS2 hb hb2 hs hwl hwl2 hl2 hl3 hl4 hld hV1 hV1' hV2 hgoal hvl1 hvl2 hn hn2 hz1 hz2 hsd h hL
      go_enter Try.func81, Try.ntmps81
      go_wp2_with fail
      refine (notnull_any _ _).mono ?_
      rintro e w' ⟨rfl, rfl⟩
      go_wp2_with fail
      refine (notnull_any _ _).mono ?_
      rintro e w' ⟨rfl, rfl⟩
      go_wp2_with fail
      refine HSO.out.mono ?_
      rintro e w' ⟨rfl, nq, rfl⟩
      go_wp2_with fail
      go_quiet ((go_at_call 99; first | exact quiet_add (HV1.out ▸ popxor_any _ _ ws ws2 _ (HS.out.drewN _) (HS2.out.drewN _) HL1.out HL2.out HL3.out HLT.out HLT2.out) | exact Calls.quiet_of (HV1.out ▸ popxor_any _ _ ws ws2 _ (HS.out.drewN _) (HS2.out.drewN _) HL1.out HL2.out HL3.out HLT.out HLT2.out)))
      go_wp2_with fail
      go_quiet (fail)
      go_wp2_with fail
      go_quiet ((go_at_call 93; first | exact quiet_add (HV2.out ▸ popsl_any _ (ws2.drop n) _ (HSD.out.drewN _) HL4.out HLD.out) | exact Calls.quiet_of (HV2.out ▸ popsl_any _ (ws2.drop n) _ (HSD.out.drewN _) HL4.out HLD.out)))
      go_wp2_with fail
      go_ret
      exact ⟨ret_int (by have := HZ1.out; have := HZ2.out; omega), _, by first | rfl | (simp only [World.drewN_drewN]; rfl)⟩
    · have HZ2 : Hid (V2 = 0) := hz2 (by omega)
      have hd2 : decide (n < n2) = false := by simp; omega
      have HN0 := Lib.hid h0
      clear h0 he
      clear hS hS2 hb hb2 hs hwl hwl2 hl2 hl3 hl4 hld hV1 hV1' hV2 hgoal hvl1 hvl2 hn hn2 hz1 hz2 hsd h hL
      go_enter Try.func81, Try.ntmps81
      go_wp2_with fail
      refine (notnull_any _ _).mono ?_
      rintro e w' ⟨rfl, rfl⟩
      go_wp2_with fail
      refine (notnull_any _ _).mono ?_
      rintro e w' ⟨rfl, rfl⟩
      go_wp2_with fail
      refine HSO.out.mono ?_
      rintro e w' ⟨rfl, nq, rfl⟩
      go_wp2_with fail
      go_quiet ((go_at_call 99; first | exact quiet_add (HV1.out ▸ popxor_any _ _ ws ws2 _ (HS.out.drewN _) (HS2.out.drewN _) HL1.out HL2.out HL3.out HLT.out HLT2.out) | exact Calls.quiet_of (HV1.out ▸ popxor_any _ _ ws ws2 _ (HS.out.drewN _) (HS2.out.drewN _) HL1.out HL2.out HL3.out HLT.out HLT2.out)))
      go_wp2_with fail
      go_quiet (fail)
      go_wp2_with fail
      go_ret
      exact ⟨ret_int (by have := HZ1.out; have := HZ2.out; omega), _, by first | rfl | (simp only [World.drewN_drewN]; rfl)⟩

theorem bne_swap (a b : Bool) : (a != b) = (b != a) := by cases a <;> cases b <;> rfl
theorem Bsm.bit_drop (ws : List Nat) (n j : Nat) : Bsm.bit (ws.drop n) j = Bsm.bit ws (64 * n + j) := by
  unfold Bsm.bit
  rw [show (64 * n + j) / 64 = n + j / 64 from by omega, show (64 * n + j) % 64 = j % 64 from by omega]
  simp [List.getD_eq_getElem?_getD, List.getElem?_drop]

theorem Bsm.sym_count (ws ws2 : List Nat) (hl : ws.length ≤ ws2.length) (cs : List Bool) (hcs : ∀ j, cs.getD j false = (Bsm.bit ws j != Bsm.bit ws2 j)) :
    (Bsm.pos cs).length = Bsm.cnt (Bsm.bit (List.zipWith (fun x y => x ^^^ y) ws ws2)) 0 (64 * ws.length) + Bsm.cnt (Bsm.bit (ws2.drop ws.length)) 0 (64 * (ws2.drop ws.length).length) := by
  have hout : ∀ (zs : List Nat) (j : Nat), 64 * zs.length ≤ j → Bsm.bit zs j = false := by
    intro zs j hj
    unfold Bsm.bit
    rw [List.getD_eq_getElem?_getD, List.getElem?_eq_none (by omega)]
    exact Nat.zero_testBit _
  rw [Bsm.pos_cnt cs (fun j => cs.getD j false) (64 * ws2.length) (fun _ _ => rfl) (fun j hj => by rw [hcs, hout ws j (by omega), hout ws2 j hj]; rfl)]
  rw [show 64 * ws2.length = 64 * ws.length + 64 * (ws2.length - ws.length) from by omega, Bsm.cnt_add, List.length_drop]
  congr 1
  · exact Bsm.cnt_congr _ _ _ _ _ fun j hj => by
      rw [Nat.zero_add, Bsm.bit_zip _ (fun x y => x != y) (fun x y j => Nat.testBit_xor x y j) ws ws2 hl j hj]; exact hcs j
  · exact Bsm.cnt_congr _ _ _ _ _ fun j hj => by
      rw [Nat.zero_add, Nat.zero_add, Bsm.bit_drop]
      show cs.getD (64 * ws.length + j) false = _
      rw [hcs, hout ws _ (by omega)]
      cases Bsm.bit ws2 (64 * ws.length + j) <;> rfl

theorem symcard_any (B B2 p p2 L L2 : Nat) (ws ws2 : List Nat) (cap cap2 : Nat) (w : World) (hb : Bs B w p L ws cap) (hb2 : Bs B2 w p2 L2 ws2 cap2) (hL : L ≤ 10000) (hL2 : L2 ≤ 10000)
    (hwl : ws.length = (L + 63) / 64) (hwl2 : ws2.length = (L2 + 63) / 64) (cs : List Bool) (hcs : ∀ j, cs.getD j false = (Bsm.bit ws j != Bsm.bit ws2 j)) :
    Calls Try.prog 81 #[.pointer (some ⟨p, 0, none⟩), .pointer (some ⟨p2, 0, none⟩)] w fun e w' => e = .returned (.int .u64 ((Bsm.pos cs).length : Nat)) ∧ ∃ m, w' = w.drewN m := by
  by_cases h : L ≤ L2
  · rw [Bsm.sym_count ws ws2 (by omega) cs hcs]
    exact symcard_core ⟨p, 0, none⟩ ⟨p2, 0, none⟩ B B2 p p2 L L2 ws ws2 cap cap2 w hb hb2 hL2 h hwl hwl2 (sort_le B B2 p p2 L L2 ws ws2 cap cap2 w hb hb2 (by omega) (by omega) h)
  · rw [Bsm.sym_count ws2 ws (by omega) cs (fun j => by rw [hcs]; exact bne_swap _ _)]
    exact symcard_core ⟨p, 0, none⟩ ⟨p2, 0, none⟩ B2 B p2 p L2 L ws2 ws cap2 cap w hb2 hb hL (by omega) hwl2 hwl (sort_gt B B2 p p2 L L2 ws ws2 cap cap2 w hb hb2 (by omega) (by omega) (by omega))

theorem sym_any (B B2 p p2 L L2 : Nat) (ws ws2 : List Nat) (cap cap2 : Nat) (w : World) (hb : Bs B w p L ws cap) (hb2 : Bs B2 w p2 L2 ws2 cap2) (hL : L ≤ 10000) (hL2 : L2 ≤ 10000)
    (hwl : ws.length = (L + 63) / 64) (hwl2 : ws2.length = (L2 + 63) / 64) :
    Calls Try.prog 79 #[.pointer (some ⟨p, 0, none⟩), .pointer (some ⟨p2, 0, none⟩)] w fun e w' => ∃ r ws' cap', e = .returned (.pointer (some ⟨r, 0, none⟩)) ∧
      Bs w.heap.size w' r (max L L2) ws' cap' ∧ max L L2 ≤ 64 * ws'.length ∧ (∀ j, Bsm.bit ws' j = (Bsm.bit ws j != Bsm.bit ws2 j)) ∧ Below w.heap.size w w' := by
  by_cases h : L ≤ L2
  · rw [Nat.max_eq_right h]
    exact sym_core ⟨p, 0, none⟩ ⟨p2, 0, none⟩ B B2 p p2 L L2 ws ws2 cap cap2 w hb hb2 (by omega) h hwl hwl2 (sort_le B B2 p p2 L L2 ws ws2 cap cap2 w hb hb2 (by omega) (by omega) h)
  · rw [Nat.max_eq_left (by omega)]
    exact (sym_core ⟨p, 0, none⟩ ⟨p2, 0, none⟩ B2 B p2 p L2 L ws2 ws cap2 cap w hb2 hb (by omega) (by omega) hwl2 hwl (sort_gt B B2 p p2 L L2 ws ws2 cap cap2 w hb hb2 (by omega) (by omega) (by omega))).mono
      fun _ _ ⟨r, ws', cp, he, h1, h2, h3, h4⟩ => ⟨r, ws', cp, he, h1, h2, fun j => (h3 j).trans (bne_swap _ _), h4⟩

theorem insym_any (B B2 p p2 L L2 : Nat) (ws ws2 : List Nat) (cap2 : Nat) (w : World) (hb : Bs B w p L ws ws.length) (hb2 : Bs B2 w p2 L2 ws2 cap2) (hL : L ≤ 10000) (hL2 : L2 ≤ 10000)
    (hwl : ws.length = (L + 63) / 64) (hwl2 : ws2.length = (L2 + 63) / 64) (hu : Under B2 p w) (hBw : B ≤ w.heap.size) :
    Calls Try.prog 80 #[.pointer (some ⟨p, 0, none⟩), .pointer (some ⟨p2, 0, none⟩)] w fun e w' => e = .returned (.tuple #[]) ∧
      ∃ ws' cap', Bs B w' p (max L L2) ws' cap' ∧ max L L2 ≤ 64 * ws'.length ∧ (∀ j, Bsm.bit ws' j = (Bsm.bit ws j != Bsm.bit ws2 j)) ∧ Below B w w' := by
  by_cases h : L2 ≤ L
  · exact insym_keep B B2 p p2 L L2 ws ws2 cap2 w hb hb2 hL hL2 hwl hwl2 hu hBw h
  · by_cases h2 : (L + 63) / 64 < (L2 + 63) / 64
    · exact insym_more B B2 p p2 L L2 ws ws2 cap2 w hb hb2 hL hL2 hwl hwl2 hu hBw (by omega) h2
    · exact insym_even B B2 p p2 L L2 ws ws2 cap2 w hb hb2 hL hL2 hwl hwl2 hu hBw (by omega) (by omega)

set_option maxRecDepth 100000 in
set_option maxHeartbeats 4000000 in
theorem bssymcard_any (v u : Value) (xs ys : List Bool)  (w : World) (hv : IsBits w v xs) (hu : IsBits w u ys) (hn : xs.length ≤ 1000) (hn2 : ys.length ≤ 1000) :
    Calls Try.prog 52 #[v, u] w fun e w' => e = .returned (.int .u64 ((Bsm.pos (twos 3 xs ys)).length : Nat)) ∧ Below w.heap.size w w' := by
  have hv0 := hv
  have hu0 := hu
  obtain ⟨s, rfl, hs⟩ := hv
  obtain ⟨a, n, cap, rfl, _⟩ := hs
  obtain ⟨s2, rfl, hs2⟩ := hu
  obtain ⟨a2, n2, cap2, rfl, _⟩ := hs2
  have hb0 : Below w.heap.size w ((w.alloc (.cells #[.int .u64 (xs.length : Int), .slice a n cap] 25)).alloc (.cells #[.int .u64 (ys.length : Int), .slice a2 n2 cap2] 25)) := ((Below.refl _ _).alloc (Nat.le_refl _) _).alloc (by simp) _
  have HV := Lib.hid (hv0.below rfl hb0)
  have HU := Lib.hid (hu0.below rfl hb0)
  have HB0 := Lib.hid hb0
  obtain ⟨w0, hw0⟩ : ∃ w0, w0 = ((w.alloc (.cells #[.int .u64 (xs.length : Int), .slice a n cap] 25)).alloc (.cells #[.int .u64 (ys.length : Int), .slice a2 n2 cap2] 25)) := ⟨_, rfl⟩
  have k0 : Blk w0 w.heap.size 25 #[.int .u64 (xs.length : Int), .slice a n cap] := by rw [hw0]; exact ((Blk.new w 25 #[.int .u64 (xs.length : Int), .slice a n cap]).alloc _)
  have k1 : Blk w0 (w.heap.size + 1) 25 #[.int .u64 (ys.length : Int), .slice a2 n2 cap2] := by
    have := Blk.new (w.alloc (.cells #[.int .u64 (xs.length : Int), .slice a n cap] 25)) 25 #[.int .u64 (ys.length : Int), .slice a2 n2 cap2]
    rw [World.size_alloc] at this
    rw [hw0]; exact this
  have hz0 : w.heap.size + 1 < w0.heap.size := by rw [hw0]; simp
  rw [← hw0] at HV HU HB0
  clear hb0 hv0 hu0
  go_enter Try.func52, Try.ntmps52
  go_wp2_with fail
  rw [← hw0]
  clear hw0
  have x00 : w0.drew.cell? ⟨w.heap.size, 0, none⟩ = some (.int .u64 (xs.length : Int)) := k0.cell 0 rfl
  have x01 : w0.drew.cell? ⟨w.heap.size, 1, none⟩ = some (.slice a n cap) := k0.cell 1 rfl
  have x02 : w0.drew.cell? ⟨w.heap.size + 1, 0, none⟩ = some (.int .u64 (ys.length : Int)) := k1.cell 0 rfl
  have x03 : w0.drew.cell? ⟨w.heap.size + 1, 1, none⟩ = some (.slice a2 n2 cap2) := k1.cell 1 rfl
  have HV0 := Lib.hid (HV.out.below rfl (Below.refl _ _).drew)
  have HU0 := Lib.hid (HU.out.below rfl (Below.refl _ _).drew)
  have hzd : w0.drew.heap.size = w0.heap.size := rfl
  have HZD := Lib.hid hzd
  clear k0 k1 hzd
  go_region_held3 (fun w' => w'.cell? ⟨w.heap.size, 0, none⟩ = some (.int .u64 (xs.length : Int)) ∧ w'.cell? ⟨w.heap.size, 1, none⟩ = some (.slice a n cap) ∧ w'.cell? ⟨w.heap.size + 1, 0, none⟩ = some (.int .u64 (ys.length : Int)) ∧ w'.cell? ⟨w.heap.size + 1, 1, none⟩ = some (.slice a2 n2 cap2))
    ((first | go_keep | exact ⟨by assumption, by assumption, by assumption, by assumption⟩ | assumption))
    ((first
        | (go_at_call 81; refine (symcard_any _ _ p1 p2 _ _ ws1 ws2 _ _ _ (HB1.out.below hb2) HB2.out (by omega) (by omega) HWL1.out HWL2.out (twos 3 xs ys) (fun j => by rw [twos_get _ _ _ (by omega), HBIT1.out, HBIT2.out]; rfl)).mono ?_; rintro e w3 ⟨rfl, m, rfl⟩)
        | (go_at_call 53; refine (set64_any _ ys _ (HU0.out.below rfl hb1) (by omega)).mono ?_; rintro e w2 ⟨p2, ws2, rfl, hbs2, hwl2, hbit2, hb2⟩; rw [← hwl2] at hbs2; have HB2 := Lib.hid hbs2; have HWL2 := Lib.hid hwl2; have HBIT2 := Lib.hid hbit2; clear hbs2 hwl2 hbit2; have hz2 : w.heap.size + 1 < w2.heap.size := (by have := hb2.size; simp at *; omega); have x20 : w2.cell? ⟨w.heap.size, 0, none⟩ = some (.int .u64 (xs.length : Int)) := (hb2.cell (p := ⟨w.heap.size, 0, none⟩) (by simp; omega)).trans x10; have x21 : w2.cell? ⟨w.heap.size, 1, none⟩ = some (.slice a n cap) := (hb2.cell (p := ⟨w.heap.size, 1, none⟩) (by simp; omega)).trans x11; have x22 : w2.cell? ⟨w.heap.size + 1, 0, none⟩ = some (.int .u64 (ys.length : Int)) := (hb2.cell (p := ⟨w.heap.size + 1, 0, none⟩) (by simp; omega)).trans x12; have x23 : w2.cell? ⟨w.heap.size + 1, 1, none⟩ = some (.slice a2 n2 cap2) := (hb2.cell (p := ⟨w.heap.size + 1, 1, none⟩) (by simp; omega)).trans x13)
        | (go_at_call 53; refine (set64_any _ xs _ HV0.out (by omega)).mono ?_; rintro e w1 ⟨p1, ws1, rfl, hbs1, hwl1, hbit1, hb1⟩; rw [← hwl1] at hbs1; have HB1 := Lib.hid hbs1; have HWL1 := Lib.hid hwl1; have HBIT1 := Lib.hid hbit1; clear hbs1 hwl1 hbit1; have hz1 : w.heap.size + 1 < w1.heap.size := (by have := hb1.size; have := HZD.out; omega); have x10 : w1.cell? ⟨w.heap.size, 0, none⟩ = some (.int .u64 (xs.length : Int)) := (hb1.cell (p := ⟨w.heap.size, 0, none⟩) (by simp; omega)).trans x00; have x11 : w1.cell? ⟨w.heap.size, 1, none⟩ = some (.slice a n cap) := (hb1.cell (p := ⟨w.heap.size, 1, none⟩) (by simp; omega)).trans x01; have x12 : w1.cell? ⟨w.heap.size + 1, 0, none⟩ = some (.int .u64 (ys.length : Int)) := (hb1.cell (p := ⟨w.heap.size + 1, 0, none⟩) (by simp; omega)).trans x02; have x13 : w1.cell? ⟨w.heap.size + 1, 1, none⟩ = some (.slice a2 n2 cap2) := (hb1.cell (p := ⟨w.heap.size + 1, 1, none⟩) (by simp; omega)).trans x03)))
  go_wp2_with fail
  go_ret
  exact ⟨rfl, below_drewN (HB0.out.drew.trans ((hb1.mono (by have := HZD.out; omega)).trans (hb2.mono (by omega)))) m⟩

set_option maxRecDepth 100000 in
set_option maxHeartbeats 4000000 in
theorem bssym_any (v u : Value) (xs ys : List Bool)  (w : World) (hv : IsBits w v xs) (hu : IsBits w u ys) (hn : xs.length ≤ 1000) (hn2 : ys.length ≤ 1000) :
    Calls Try.prog 50 #[v, u] w fun e w' => ∃ v' cs, e = .returned v' ∧ OwnBits w.heap.size w' v' cs ∧ Bsm.pos cs = Bsm.pos (twos 3 xs ys) ∧ cs.length ≤ 10000 ∧ Below w.heap.size w w' := by
  have hv0 := hv
  have hu0 := hu
  obtain ⟨s, rfl, hs⟩ := hv
  obtain ⟨a, n, cap, rfl, _⟩ := hs
  obtain ⟨s2, rfl, hs2⟩ := hu
  obtain ⟨a2, n2, cap2, rfl, _⟩ := hs2
  have hb0 : Below w.heap.size w (((w.alloc (.cells #[.int .u64 (xs.length : Int), .slice a n cap] 25)).alloc (.cells #[.int .u64 (ys.length : Int), .slice a2 n2 cap2] 25)).alloc (.cells #[.int .u64 0, .slice none 0 0] 25)) := (((Below.refl _ _).alloc (Nat.le_refl _) _).alloc (by simp) _).alloc (by simp; omega) _
  have HV := Lib.hid (hv0.below rfl hb0)
  have HU := Lib.hid (hu0.below rfl hb0)
  have HB0 := Lib.hid hb0
  obtain ⟨w0, hw0⟩ : ∃ w0, w0 = (((w.alloc (.cells #[.int .u64 (xs.length : Int), .slice a n cap] 25)).alloc (.cells #[.int .u64 (ys.length : Int), .slice a2 n2 cap2] 25)).alloc (.cells #[.int .u64 0, .slice none 0 0] 25)) := ⟨_, rfl⟩
  have k0 : Blk w0 w.heap.size 25 #[.int .u64 (xs.length : Int), .slice a n cap] := by rw [hw0]; exact (((Blk.new w 25 #[.int .u64 (xs.length : Int), .slice a n cap]).alloc _).alloc _)
  have k1 : Blk w0 (w.heap.size + 1) 25 #[.int .u64 (ys.length : Int), .slice a2 n2 cap2] := by
    have := Blk.new (w.alloc (.cells #[.int .u64 (xs.length : Int), .slice a n cap] 25)) 25 #[.int .u64 (ys.length : Int), .slice a2 n2 cap2]
    rw [World.size_alloc] at this
    rw [hw0]; exact this.alloc _
  have k2 : Blk w0 (w.heap.size + 2) 25 #[.int .u64 0, .slice none 0 0] := by
    have := Blk.new ((w.alloc (.cells #[.int .u64 (xs.length : Int), .slice a n cap] 25)).alloc (.cells #[.int .u64 (ys.length : Int), .slice a2 n2 cap2] 25)) 25 #[.int .u64 0, .slice none 0 0]
    simp only [World.size_alloc] at this
    rw [hw0]; exact this
  have hz0 : w.heap.size + 2 < w0.heap.size := by rw [hw0]; simp
  rw [← hw0] at HV HU HB0
  clear hb0 hv0 hu0
  go_enter Try.func50, Try.ntmps50
  go_wp2_with fail
  rw [← hw0]
  clear hw0
  have x00 : w0.drew.cell? ⟨w.heap.size, 0, none⟩ = some (.int .u64 (xs.length : Int)) := k0.cell 0 rfl
  have x01 : w0.drew.cell? ⟨w.heap.size, 1, none⟩ = some (.slice a n cap) := k0.cell 1 rfl
  have x02 : w0.drew.cell? ⟨w.heap.size + 1, 0, none⟩ = some (.int .u64 (ys.length : Int)) := k1.cell 0 rfl
  have x03 : w0.drew.cell? ⟨w.heap.size + 1, 1, none⟩ = some (.slice a2 n2 cap2) := k1.cell 1 rfl
  have x04 : w0.drew.cell? ⟨w.heap.size + 2, 0, none⟩ = some (.int .u64 0) := k2.cell 0 rfl
  have x05 : w0.drew.cell? ⟨w.heap.size + 2, 1, none⟩ = some (.slice none 0 0) := k2.cell 1 rfl
  have HV0 := Lib.hid (HV.out.below rfl (Below.refl _ _).drew)
  have HU0 := Lib.hid (HU.out.below rfl (Below.refl _ _).drew)
  have hzd : w0.drew.heap.size = w0.heap.size := rfl
  have HZD := Lib.hid hzd
  have K2 : Hid (Blk w0.drew (w.heap.size + 2) 25 #[.int .u64 0, .slice none 0 0]) := k2
  clear k0 k1 k2 hzd
  have hne : ¬ w.heap.size + 1 + 1 = w.heap.size := by omega
  go_region_held3 (fun w' => w'.cell? ⟨w.heap.size, 0, none⟩ = some (.int .u64 (xs.length : Int)) ∧ w'.cell? ⟨w.heap.size, 1, none⟩ = some (.slice a n cap) ∧ w'.cell? ⟨w.heap.size + 1, 0, none⟩ = some (.int .u64 (ys.length : Int)) ∧ w'.cell? ⟨w.heap.size + 1, 1, none⟩ = some (.slice a2 n2 cap2))
    ((first | go_keep | exact ⟨by assumption, by assumption, by assumption, by assumption⟩ | assumption))
    ((first
        | (go_at_call 55; refine (said64_any _ r (max xs.length ys.length) ws3 cap3 _ HB3.out HL3.out (by omega)).mono ?_; rintro e w4 ⟨v', rfl, hob, hb4⟩; have HOB := Lib.hid hob; obtain ⟨p', m', c', rfl, _⟩ := hob; have hz4 : w.heap.size + 2 < w4.heap.size := (by have := hb4.size; simp at *; omega); have x40 : w4.cell? ⟨w.heap.size, 0, none⟩ = some (.int .u64 (xs.length : Int)) := (hb4.cell (p := ⟨w.heap.size, 0, none⟩) (by simp; omega)).trans x30; have x41 : w4.cell? ⟨w.heap.size, 1, none⟩ = some (.slice a n cap) := (hb4.cell (p := ⟨w.heap.size, 1, none⟩) (by simp; omega)).trans x31; have x42 : w4.cell? ⟨w.heap.size + 1, 0, none⟩ = some (.int .u64 (ys.length : Int)) := (hb4.cell (p := ⟨w.heap.size + 1, 0, none⟩) (by simp; omega)).trans x32; have x43 : w4.cell? ⟨w.heap.size + 1, 1, none⟩ = some (.slice a2 n2 cap2) := (hb4.cell (p := ⟨w.heap.size + 1, 1, none⟩) (by simp; omega)).trans x33; have x44 : w4.cell? ⟨w.heap.size + 2, 0, none⟩ = some (.int .u64 0) := (hb4.cell (p := ⟨w.heap.size + 2, 0, none⟩) (by simp; omega)).trans x34; have x45 : w4.cell? ⟨w.heap.size + 2, 1, none⟩ = some (.slice none 0 0) := (hb4.cell (p := ⟨w.heap.size + 2, 1, none⟩) (by simp; omega)).trans x35; have y0 := ((((K2.out.below hb1 (by have := HZD.out; omega)).below hb2 (by omega)).below hb3 (by omega)).below hb4 (by omega)).free 0; have y1 := ((((K2.out.below hb1 (by have := HZD.out; omega)).below hb2 (by omega)).below hb3 (by omega)).below hb4 (by omega)).free 1)
        | (go_at_call 79; refine (sym_any _ _ p1 p2 _ _ ws1 ws2 _ _ _ (HB1.out.below hb2) HB2.out (by omega) (by omega) HWL1.out HWL2.out).mono ?_; rintro e w3 ⟨r, ws3, cap3, rfl, hbs3, hl3, hbit3, hb3⟩; have HB3 := Lib.hid hbs3; have HL3 := Lib.hid hl3; have HBIT3 := Lib.hid hbit3; clear hbs3 hl3 hbit3; have hz3 : w.heap.size + 2 < w3.heap.size := (by have := hb3.size; simp at *; omega); have x30 : w3.cell? ⟨w.heap.size, 0, none⟩ = some (.int .u64 (xs.length : Int)) := (hb3.cell (p := ⟨w.heap.size, 0, none⟩) (by simp; omega)).trans x20; have x31 : w3.cell? ⟨w.heap.size, 1, none⟩ = some (.slice a n cap) := (hb3.cell (p := ⟨w.heap.size, 1, none⟩) (by simp; omega)).trans x21; have x32 : w3.cell? ⟨w.heap.size + 1, 0, none⟩ = some (.int .u64 (ys.length : Int)) := (hb3.cell (p := ⟨w.heap.size + 1, 0, none⟩) (by simp; omega)).trans x22; have x33 : w3.cell? ⟨w.heap.size + 1, 1, none⟩ = some (.slice a2 n2 cap2) := (hb3.cell (p := ⟨w.heap.size + 1, 1, none⟩) (by simp; omega)).trans x23; have x34 : w3.cell? ⟨w.heap.size + 2, 0, none⟩ = some (.int .u64 0) := (hb3.cell (p := ⟨w.heap.size + 2, 0, none⟩) (by simp; omega)).trans x24; have x35 : w3.cell? ⟨w.heap.size + 2, 1, none⟩ = some (.slice none 0 0) := (hb3.cell (p := ⟨w.heap.size + 2, 1, none⟩) (by simp; omega)).trans x25)
        | (go_at_call 53; refine (set64_any _ ys _ (HU0.out.below rfl hb1) (by omega)).mono ?_; rintro e w2 ⟨p2, ws2, rfl, hbs2, hwl2, hbit2, hb2⟩; rw [← hwl2] at hbs2; have HB2 := Lib.hid hbs2; have HWL2 := Lib.hid hwl2; have HBIT2 := Lib.hid hbit2; clear hbs2 hwl2 hbit2; have hz2 : w.heap.size + 2 < w2.heap.size := (by have := hb2.size; simp at *; omega); have x20 : w2.cell? ⟨w.heap.size, 0, none⟩ = some (.int .u64 (xs.length : Int)) := (hb2.cell (p := ⟨w.heap.size, 0, none⟩) (by simp; omega)).trans x10; have x21 : w2.cell? ⟨w.heap.size, 1, none⟩ = some (.slice a n cap) := (hb2.cell (p := ⟨w.heap.size, 1, none⟩) (by simp; omega)).trans x11; have x22 : w2.cell? ⟨w.heap.size + 1, 0, none⟩ = some (.int .u64 (ys.length : Int)) := (hb2.cell (p := ⟨w.heap.size + 1, 0, none⟩) (by simp; omega)).trans x12; have x23 : w2.cell? ⟨w.heap.size + 1, 1, none⟩ = some (.slice a2 n2 cap2) := (hb2.cell (p := ⟨w.heap.size + 1, 1, none⟩) (by simp; omega)).trans x13; have x24 : w2.cell? ⟨w.heap.size + 2, 0, none⟩ = some (.int .u64 0) := (hb2.cell (p := ⟨w.heap.size + 2, 0, none⟩) (by simp; omega)).trans x14; have x25 : w2.cell? ⟨w.heap.size + 2, 1, none⟩ = some (.slice none 0 0) := (hb2.cell (p := ⟨w.heap.size + 2, 1, none⟩) (by simp; omega)).trans x15)
        | (go_at_call 53; refine (set64_any _ xs _ HV0.out (by omega)).mono ?_; rintro e w1 ⟨p1, ws1, rfl, hbs1, hwl1, hbit1, hb1⟩; rw [← hwl1] at hbs1; have HB1 := Lib.hid hbs1; have HWL1 := Lib.hid hwl1; have HBIT1 := Lib.hid hbit1; clear hbs1 hwl1 hbit1; have hz1 : w.heap.size + 2 < w1.heap.size := (by have := hb1.size; have := HZD.out; omega); have x10 : w1.cell? ⟨w.heap.size, 0, none⟩ = some (.int .u64 (xs.length : Int)) := (hb1.cell (p := ⟨w.heap.size, 0, none⟩) (by simp; omega)).trans x00; have x11 : w1.cell? ⟨w.heap.size, 1, none⟩ = some (.slice a n cap) := (hb1.cell (p := ⟨w.heap.size, 1, none⟩) (by simp; omega)).trans x01; have x12 : w1.cell? ⟨w.heap.size + 1, 0, none⟩ = some (.int .u64 (ys.length : Int)) := (hb1.cell (p := ⟨w.heap.size + 1, 0, none⟩) (by simp; omega)).trans x02; have x13 : w1.cell? ⟨w.heap.size + 1, 1, none⟩ = some (.slice a2 n2 cap2) := (hb1.cell (p := ⟨w.heap.size + 1, 1, none⟩) (by simp; omega)).trans x03; have x14 : w1.cell? ⟨w.heap.size + 2, 0, none⟩ = some (.int .u64 0) := (hb1.cell (p := ⟨w.heap.size + 2, 0, none⟩) (by simp; omega)).trans x04; have x15 : w1.cell? ⟨w.heap.size + 2, 1, none⟩ = some (.slice none 0 0) := (hb1.cell (p := ⟨w.heap.size + 2, 1, none⟩) (by simp; omega)).trans x05)))
  go_wp2_with fail
  refine bodyPost_ret (v := .agg #[.int .u64 ((Bsm.bitsOf ws3 (max xs.length ys.length)).length : Int), .slice p' m' c']) (by simp [results, Try.results50, go_sem, *]) rfl ?_
  refine ⟨_, Bsm.bitsOf ws3 (max xs.length ys.length), rfl, ?_, ?_, by rw [Bsm.bitsOf_len]; omega, ((HB0.out.drew.trans ((hb1.mono (by have := HZD.out; omega)).trans ((hb2.mono (by omega)).trans ((hb3.mono (by omega)).trans (hb4.mono (by omega)))))).setCell (by simp; omega) _).setCell (by simp; omega) _⟩
  · exact ((HOB.out.set (a := ⟨w.heap.size + 2, 0, none⟩) (by simp; omega) (.int .u64 ((Bsm.bitsOf ws3 (max xs.length ys.length)).length : Int))).set (a := ⟨w.heap.size + 2, 1, none⟩) (by simp; omega) (.slice p' m' c')).weaken (B' := w.heap.size) (by omega)
  · apply Bsm.pos_congr
    intro j
    rw [Bsm.bitsOf_get, twos_get _ _ _ (by omega)]
    rw [HBIT3.out, HBIT1.out, HBIT2.out]
    by_cases hj : j < max xs.length ys.length
    · simp [hj, two]
    · rw [Bsm.getD_out xs j (by omega), Bsm.getD_out ys j (by omega)]; simp [two]

set_option maxRecDepth 100000 in
set_option maxHeartbeats 4000000 in
theorem bssymin_any (v u : Value) (xs ys : List Bool)  (w : World) (hv : IsBits w v xs) (hu : IsBits w u ys) (hn : xs.length ≤ 1000) (hn2 : ys.length ≤ 1000) :
    Calls Try.prog 51 #[v, u] w fun e w' => ∃ v' cs, e = .returned v' ∧ OwnBits w.heap.size w' v' cs ∧ Bsm.pos cs = Bsm.pos (twos 3 xs ys) ∧ cs.length ≤ 10000 ∧ Below w.heap.size w w' := by
  have hv0 := hv
  have hu0 := hu
  obtain ⟨s, rfl, hs⟩ := hv
  obtain ⟨a, n, cap, rfl, _⟩ := hs
  obtain ⟨s2, rfl, hs2⟩ := hu
  obtain ⟨a2, n2, cap2, rfl, _⟩ := hs2
  have hb0 : Below w.heap.size w (((w.alloc (.cells #[.int .u64 (xs.length : Int), .slice a n cap] 25)).alloc (.cells #[.int .u64 (ys.length : Int), .slice a2 n2 cap2] 25)).alloc (.cells #[.int .u64 0, .slice none 0 0] 25)) := (((Below.refl _ _).alloc (Nat.le_refl _) _).alloc (by simp) _).alloc (by simp; omega) _
  have HV := Lib.hid (hv0.below rfl hb0)
  have HU := Lib.hid (hu0.below rfl hb0)
  have HB0 := Lib.hid hb0
  obtain ⟨w0, hw0⟩ : ∃ w0, w0 = (((w.alloc (.cells #[.int .u64 (xs.length : Int), .slice a n cap] 25)).alloc (.cells #[.int .u64 (ys.length : Int), .slice a2 n2 cap2] 25)).alloc (.cells #[.int .u64 0, .slice none 0 0] 25)) := ⟨_, rfl⟩
  have k0 : Blk w0 w.heap.size 25 #[.int .u64 (xs.length : Int), .slice a n cap] := by rw [hw0]; exact (((Blk.new w 25 #[.int .u64 (xs.length : Int), .slice a n cap]).alloc _).alloc _)
  have k1 : Blk w0 (w.heap.size + 1) 25 #[.int .u64 (ys.length : Int), .slice a2 n2 cap2] := by
    have := Blk.new (w.alloc (.cells #[.int .u64 (xs.length : Int), .slice a n cap] 25)) 25 #[.int .u64 (ys.length : Int), .slice a2 n2 cap2]
    rw [World.size_alloc] at this
    rw [hw0]; exact this.alloc _
  have k2 : Blk w0 (w.heap.size + 2) 25 #[.int .u64 0, .slice none 0 0] := by
    have := Blk.new ((w.alloc (.cells #[.int .u64 (xs.length : Int), .slice a n cap] 25)).alloc (.cells #[.int .u64 (ys.length : Int), .slice a2 n2 cap2] 25)) 25 #[.int .u64 0, .slice none 0 0]
    simp only [World.size_alloc] at this
    rw [hw0]; exact this
  have hz0 : w.heap.size + 2 < w0.heap.size := by rw [hw0]; simp
  rw [← hw0] at HV HU HB0
  clear hb0 hv0 hu0
  have HV0 := Lib.hid HV.out
  have HU0 := Lib.hid HU.out
  have x00 : w0.cell? ⟨w.heap.size, 0, none⟩ = some (.int .u64 (xs.length : Int)) := k0.cell 0 rfl
  have x01 : w0.cell? ⟨w.heap.size, 1, none⟩ = some (.slice a n cap) := k0.cell 1 rfl
  have x02 : w0.cell? ⟨w.heap.size + 1, 0, none⟩ = some (.int .u64 (ys.length : Int)) := k1.cell 0 rfl
  have x03 : w0.cell? ⟨w.heap.size + 1, 1, none⟩ = some (.slice a2 n2 cap2) := k1.cell 1 rfl
  have K2 := Lib.hid k2
  clear k0 k1 k2
  go_enter Try.func51, Try.ntmps51
  go_wp2_with fail
  rw [← hw0]
  clear hw0
  refine (set64_any _ xs _ HV0.out (by omega)).mono ?_
  rintro e w1 ⟨p1, ws1, rfl, hbs1, hwl1, hbit1, hb1⟩
  rw [← hwl1] at hbs1
  have HB1 := Lib.hid hbs1
  have HWL1 := Lib.hid hwl1
  have HBIT1 := Lib.hid hbit1
  clear hbs1 hwl1 hbit1
  have hz1 : w.heap.size + 2 < w1.heap.size := (by have := hb1.size; simp at *; omega); have x10 : w1.cell? ⟨w.heap.size, 0, none⟩ = some (.int .u64 (xs.length : Int)) := (hb1.cell (p := ⟨w.heap.size, 0, none⟩) (by simp; omega)).trans x00; have x11 : w1.cell? ⟨w.heap.size, 1, none⟩ = some (.slice a n cap) := (hb1.cell (p := ⟨w.heap.size, 1, none⟩) (by simp; omega)).trans x01; have x12 : w1.cell? ⟨w.heap.size + 1, 0, none⟩ = some (.int .u64 (ys.length : Int)) := (hb1.cell (p := ⟨w.heap.size + 1, 0, none⟩) (by simp; omega)).trans x02; have x13 : w1.cell? ⟨w.heap.size + 1, 1, none⟩ = some (.slice a2 n2 cap2) := (hb1.cell (p := ⟨w.heap.size + 1, 1, none⟩) (by simp; omega)).trans x03
  go_wp2_with fail
  refine (set64_any _ ys _ (HU0.out.below rfl hb1) (by omega)).mono ?_
  rintro e w2 ⟨p2, ws2, rfl, hbs2, hwl2, hbit2, hb2⟩
  rw [← hwl2] at hbs2
  have HB2 := Lib.hid hbs2
  have HWL2 := Lib.hid hwl2
  have HBIT2 := Lib.hid hbit2
  clear hbs2 hwl2 hbit2
  have hz2 : w.heap.size + 2 < w2.heap.size := (by have := hb2.size; simp at *; omega); have x20 : w2.cell? ⟨w.heap.size, 0, none⟩ = some (.int .u64 (xs.length : Int)) := (hb2.cell (p := ⟨w.heap.size, 0, none⟩) (by simp; omega)).trans x10; have x21 : w2.cell? ⟨w.heap.size, 1, none⟩ = some (.slice a n cap) := (hb2.cell (p := ⟨w.heap.size, 1, none⟩) (by simp; omega)).trans x11; have x22 : w2.cell? ⟨w.heap.size + 1, 0, none⟩ = some (.int .u64 (ys.length : Int)) := (hb2.cell (p := ⟨w.heap.size + 1, 0, none⟩) (by simp; omega)).trans x12; have x23 : w2.cell? ⟨w.heap.size + 1, 1, none⟩ = some (.slice a2 n2 cap2) := (hb2.cell (p := ⟨w.heap.size + 1, 1, none⟩) (by simp; omega)).trans x13
  have HUN : Hid (Under w1.heap.size p1 w2) := by
    obtain ⟨g, _, e1, _, _, _, e2, e3⟩ := HB1.out.sl
    refine ⟨e3, fun q n c hq => ?_⟩
    rw [(hb2.cell (p := ⟨p1, 1, none⟩) e3).trans e1] at hq
    simp only [Option.some.injEq, Value.slice.injEq] at hq
    rw [← hq.1]
    exact e2
  go_wp2_with fail
  refine (insym_any w0.heap.size w1.heap.size p1 p2 _ _ ws1 ws2 _ _ (HB1.out.below hb2) HB2.out (by omega) (by omega) HWL1.out HWL2.out HUN.out (by have := hb1.size; have := hb2.size; omega)).mono ?_
  rintro e w3 ⟨rfl, ws3, cap3, hbs3, hl3, hbit3, hb3⟩
  have HB3 := Lib.hid hbs3
  have HL3 := Lib.hid hl3
  have HBIT3 := Lib.hid hbit3
  clear hbs3 hl3 hbit3
  have hz3 : w.heap.size + 2 < w3.heap.size := (by have := hb3.size; simp at *; omega); have x30 : w3.cell? ⟨w.heap.size, 0, none⟩ = some (.int .u64 (xs.length : Int)) := (hb3.cell (p := ⟨w.heap.size, 0, none⟩) (by simp; omega)).trans x20; have x31 : w3.cell? ⟨w.heap.size, 1, none⟩ = some (.slice a n cap) := (hb3.cell (p := ⟨w.heap.size, 1, none⟩) (by simp; omega)).trans x21; have x32 : w3.cell? ⟨w.heap.size + 1, 0, none⟩ = some (.int .u64 (ys.length : Int)) := (hb3.cell (p := ⟨w.heap.size + 1, 0, none⟩) (by simp; omega)).trans x22; have x33 : w3.cell? ⟨w.heap.size + 1, 1, none⟩ = some (.slice a2 n2 cap2) := (hb3.cell (p := ⟨w.heap.size + 1, 1, none⟩) (by simp; omega)).trans x23
  go_wp2_with fail
  refine (said64_any _ p1 (max xs.length ys.length) ws3 cap3 _ HB3.out HL3.out (by omega)).mono ?_
  rintro e w4 ⟨v', rfl, hob, hb4⟩
  have HOB := Lib.hid hob
  obtain ⟨p', m', c', rfl, _⟩ := hob
  have hz4 : w.heap.size + 2 < w4.heap.size := (by have := hb4.size; simp at *; omega); have x40 : w4.cell? ⟨w.heap.size, 0, none⟩ = some (.int .u64 (xs.length : Int)) := (hb4.cell (p := ⟨w.heap.size, 0, none⟩) (by simp; omega)).trans x30; have x41 : w4.cell? ⟨w.heap.size, 1, none⟩ = some (.slice a n cap) := (hb4.cell (p := ⟨w.heap.size, 1, none⟩) (by simp; omega)).trans x31; have x42 : w4.cell? ⟨w.heap.size + 1, 0, none⟩ = some (.int .u64 (ys.length : Int)) := (hb4.cell (p := ⟨w.heap.size + 1, 0, none⟩) (by simp; omega)).trans x32; have x43 : w4.cell? ⟨w.heap.size + 1, 1, none⟩ = some (.slice a2 n2 cap2) := (hb4.cell (p := ⟨w.heap.size + 1, 1, none⟩) (by simp; omega)).trans x33
  have bk := (((K2.out.below hb1 (by omega)).below hb2 (by omega)).below hb3 (by omega)).below hb4 (by omega)
  have q0 : w4.cell? ⟨w.heap.size + 2, 0, none⟩ = some (.int .u64 0) := bk.cell 0 rfl
  have q1 : w4.cell? ⟨w.heap.size + 2, 1, none⟩ = some (.slice none 0 0) := bk.cell 1 rfl
  have y0 := bk.free 0
  have y1 := bk.free 1
  clear bk
  go_wp2_with fail
  refine bodyPost_ret (v := .agg #[.int .u64 ((Bsm.bitsOf ws3 (max xs.length ys.length)).length : Int), .slice p' m' c']) (by simp [results, Try.results51, go_sem, *]) rfl ?_
  refine ⟨_, Bsm.bitsOf ws3 (max xs.length ys.length), rfl, ?_, ?_, by rw [Bsm.bitsOf_len]; omega, (((HB0.out).trans ((hb1.mono (by omega)).trans ((hb2.mono (by omega)).trans ((hb3.mono (by omega)).trans (hb4.mono (by omega)))))).setCell (by simp; omega) _).setCell (by simp; omega) _⟩
  · exact ((HOB.out.set (a := ⟨w.heap.size + 2, 0, none⟩) (by simp; omega) (.int .u64 ((Bsm.bitsOf ws3 (max xs.length ys.length)).length : Int))).set (a := ⟨w.heap.size + 2, 1, none⟩) (by simp; omega) (.slice p' m' c')).weaken (B' := w.heap.size) (by omega)
  · apply Bsm.pos_congr
    intro j
    rw [Bsm.bitsOf_get, twos_get _ _ _ (by omega)]
    rw [HBIT3.out, HBIT1.out, HBIT2.out]
    by_cases hj : j < max xs.length ys.length
    · simp [hj, two]
    · rw [Bsm.getD_out xs j (by omega), Bsm.getD_out ys j (by omega)]; simp [two]
end Go.Proofs.Ytbgmkojiklphmaa
