/- FnBLCopy. -/
import Derived.Test.YtbcbkieebelleaaBlCopy
import Derived.Test.YtbcbkieebelleaaBlClearImpl
import Derived.Test.YtbcbkieebelleaaBlPut
import Derived.Test.YtbcbkieebelleaaBlTestLaw
import Derived.Test.YtbcbkieebelleaaBlSame
import Derived.Test.YtbcbkieebelleaaBlLocsLaw
import Derived.Outline
namespace Go.Proofs.Ytbcbkieebelleaa
set_option linter.unusedVariables false
open Go.RowKit

theorem bits_same (ws ws2 : List Nat) (m : Nat) (h : ∀ j, Bsm.bit ws j = Bsm.bit ws2 j) : Bsm.bitsOf ws m = Bsm.bitsOf ws2 m := by
  unfold Bsm.bitsOf
  apply List.map_congr_left
  intro j _
  exact h j
theorem bits_none (ws : List Nat) (m : Nat) (h : ∀ j, Bsm.bit ws j = false) : Bsm.bitsOf ws m = List.replicate m false := by
  unfold Bsm.bitsOf
  apply List.ext_getElem
  · simp
  · intro i h1 h2
    simp [h]

set_option maxRecDepth 100000 in
set_option maxHeartbeats 8000000 in
theorem law_blcopy (a b : Int) (v u : Value) (w : World) (ha : (Lit.int .u16 a).wf = true) (hb : (Lit.int .u8 b).wf = true) (hv : AnyU64s w v) (hu : AnyU8b w u) :
    Calls Try.prog 10 #[.int .u16 a, .int .u8 b, v, u] w fun e w' => e = .returned (.bool true) ∧ Below w.heap.size w w' := by
  have hA : 0 ≤ a ∧ a ≤ 65535 := by simp [Lit.wf, IntKind.min, IntKind.max, IntKind.signed, IntKind.bits] at ha; omega
  have hB : 0 ≤ b ∧ b ≤ 255 := by simp [Lit.wf, IntKind.min, IntKind.max, IntKind.signed, IntKind.bits] at hb; omega
  obtain ⟨x, rfl⟩ := Int.eq_ofNat_of_zero_le hA.1
  obtain ⟨y, rfl⟩ := Int.eq_ofNat_of_zero_le hB.1
  have hA2 : x ≤ 65535 := by omega
  have hB2 : y ≤ 255 := by omega
  obtain ⟨xs, hs, hx⟩ := hv
  obtain ⟨ys, hs2, hx2⟩ := hu
  have hs0 := hs
  have hs02 := hs2
  obtain ⟨a1, n1, c1, rfl, _, _, hm1, _⟩ := hs0
  obtain ⟨a2, n2, c2, rfl, _, _, hm2, _⟩ := hs02
  unfold maxLen at hm1 hm2
  have hn1 : (n1 : Int) ≤ 9223372036854775807 := by omega
  have hn2 : (n2 : Int) ≤ 9223372036854775807 := by omega
  have HS := Lib.hid hs
  have HX := Lib.hid hx
  have HS2 := Lib.hid hs2
  have HX2 := Lib.hid hx2
  obtain ⟨m, hm⟩ : ∃ m, 1 + x % 700 = m := ⟨_, rfl⟩
  obtain ⟨k, hk⟩ : ∃ k, 1 + y % 8 = k := ⟨_, rfl⟩
  have hm7 : m ≤ 700 := by omega
  have hm0 : 1 ≤ m := by omega
  have hk8 : k ≤ 8 := by omega
  have HM := Lib.hid hm
  have HK := Lib.hid hk
  clear hA hB ha hb hs hx hs2 hx2 hm1 hm2 hm hk
  by_cases hf : (2147483647 : Int) < (n1 : Int)
  · go_enter Try.func10, Try.ntmps10
    go_wp2_with fail
    go_ret
    exact ⟨rfl, Below.refl _ _⟩
  · have hf1 : decide ((2147483647 : Int) < (n1 : Int)) = false := by simpa using hf
    clear hf
    by_cases hf2 : (2147483647 : Int) < (n2 : Int)
    · go_enter Try.func10, Try.ntmps10
      go_wp2_with fail
      go_ret
      exact ⟨rfl, Below.refl _ _⟩
    · have hf3 : decide ((2147483647 : Int) < (n2 : Int)) = false := by simpa using hf2
      clear hf2
      go_enter Try.func10, Try.ntmps10
      go_wp2_with fail
      refine (blfilter_any x y _ xs _ hA2 hB2 HS.out HX.out).mono ?_
      rintro e w1 ⟨v1, ws, rfl, hof, hl, hb1⟩
      rw [HM.out, HK.out] at hof
      rw [HM.out] at hl
      have HOF := Lib.hid hof
      have HLW := Lib.hid hl
      have HB1 := Lib.hid hb1
      obtain ⟨p1, m1, k1, rfl, _⟩ := hof
      have HS2b := Lib.hid (HS2.out.below rfl hb1)
      clear hl hb1
      go_wp2_with fail
      refine (bldatab_any _ ys w1 HS2b.out).mono ?_
      rintro e w' ⟨da, dn, dc, rfl, rfl, hn80, bs, hsl, hmem⟩
      have hbt := Bt.of_sl hsl
      have hbl : bs.length ≤ 100000 := by rw [← hbt.2.1]; omega
      obtain ⟨r1, r2, r3, r4, L, hL, hbase⟩ := locs_ex bs hbl
      have HL : Hid (LocIs r1 r2 r3 r4 L) := Lib.hid hL
      have HBASE : Hid (BaseIs bs r1 r2 r3 r4) := Lib.hid hbase
      have HBB := Lib.hid (fun z hz => HX2.out z (hmem z hz) : ∀ z ∈ bs, 0 ≤ z ∧ z ≤ 255)
      have HBL := Lib.hid hbl
      have hk0 : 1 ≤ k := by have := HK.out; omega
      have HBT : Hid (Bt w1 da dn dc bs) := Lib.hid hbt
      obtain ⟨W4, hW4⟩ : ∃ W4, W4 = w1.alloc (.cells #[.int .u64 (m : Int), .int .u64 (k : Int), .slice p1 m1 k1] 39) := ⟨_, rfl⟩
      have hb4 : Below w1.heap.size w1 W4 := by rw [hW4]; exact (Below.refl _ _).alloc (Nat.le_refl _) _
      have kA : Blk W4 w1.heap.size 39 #[.int .u64 (m : Int), .int .u64 (k : Int), .slice p1 m1 k1] := by
        rw [hW4]; exact Blk.new w1 _ _
      have HSl := Lib.hid (hsl.below rfl hb4)
      have HFi := Lib.hid (HOF.out.is.below rfl hb4)
      have HT := Lib.hid (HB1.out.trans (hb4.mono HB1.out.size))
      have HZ := Lib.hid kA.lt
      have c0 : W4.cell? ⟨w1.heap.size, 0, none⟩ = some (.int .u64 (m : Int)) := kA.cell 0 rfl
      have c1 : W4.cell? ⟨w1.heap.size, 1, none⟩ = some (.int .u64 (k : Int)) := kA.cell 1 rfl
      have c2 : W4.cell? ⟨w1.heap.size, 2, none⟩ = some (.slice p1 m1 k1) := kA.cell 2 rfl
      subst hW4
      have HSw : Hid (Sl (w1.alloc (.cells #[.int .u64 (m : Int), .int .u64 (k : Int), .slice p1 m1 k1] 39)) (.slice p1 m1 k1) (u64s ws)) := by
        obtain ⟨_, _, _, e, h, _⟩ := HFi.out
        cases e
        exact Lib.hid h
      have HXw : Hid (∀ z ∈ ws, z < 18446744073709551616) := by
        obtain ⟨_, _, _, _, _, h⟩ := HFi.out
        exact Lib.hid h
      have HN : Hid ((m + 63) / 64 = ws.length ∧ 0 < ws.length ∧ ws.length ≤ 100) := Lib.hid ⟨HLW.out.symm, by have := HLW.out; omega, by have := HLW.out; omega⟩
      clear hb4 kA hsl hmem hbt hbl hL hbase hn80
      go_wp2_with fail
      refine (blbits_any m _ rfl _ (.slice p1 m1 k1) ws _ HSw.out HXw.out (by omega)).mono ?_
      rintro e wn ⟨vb, rfl, hown, hbn⟩
      have HSl := Lib.hid (HSl.out.below rfl hbn)
      have HSw := Lib.hid (HSw.out.below rfl hbn)
      have HFi := Lib.hid (HFi.out.below rfl hbn)
      have HT := Lib.hid (HT.out.trans (hbn.mono HT.out.size))
      have c0 := (hbn.cell (p := ⟨w1.heap.size, 0, none⟩) HZ.out).trans c0
      have c1 := (hbn.cell (p := ⟨w1.heap.size, 1, none⟩) HZ.out).trans c1
      have c2 := (hbn.cell (p := ⟨w1.heap.size, 2, none⟩) HZ.out).trans c2
      have HZ := Lib.hid (Nat.lt_of_lt_of_le HZ.out hbn.size)
      have HVb := Lib.hid (Sl.of_owns hown)
      clear hbn hown
      go_wp2_with fail
      refine (blapart_any bs r1 r2 r3 r4 L HL.out HBASE.out m k ws _ da dn dc _ HFi.out (Bt.of_sl HSl.out) HN.out.2.1 (by omega) (by omega) (by omega) HN.out.1 HN.out.2.2).mono ?_
      rintro e wa ⟨v2, v3, ws2, rfl, hof2, hof3, hl2, hbit2, hbn⟩
      have HSl := Lib.hid (HSl.out.below rfl hbn)
      have HSw := Lib.hid (HSw.out.below rfl hbn)
      have HFi := Lib.hid (HFi.out.below rfl hbn)
      have HVb := Lib.hid (HVb.out.below rfl hbn)
      have HT := Lib.hid (HT.out.trans (hbn.mono HT.out.size))
      have c0 := (hbn.cell (p := ⟨w1.heap.size, 0, none⟩) HZ.out).trans c0
      have c1 := (hbn.cell (p := ⟨w1.heap.size, 1, none⟩) HZ.out).trans c1
      have c2 := (hbn.cell (p := ⟨w1.heap.size, 2, none⟩) HZ.out).trans c2
      have HZ := Lib.hid (Nat.lt_of_lt_of_le HZ.out hbn.size)
      have HG := Lib.hid hof2.is
      have HH := Lib.hid hof3.is
      have HL2 := Lib.hid hl2
      have HBT2 := Lib.hid (pb_bits L m k ws ws2 hbit2)
      obtain ⟨p2, m2, k2, rfl, _⟩ := hof2
      obtain ⟨p3, m3, k3, rfl, _⟩ := hof3
      clear hbn hl2 hbit2
      obtain ⟨V, hV⟩ : ∃ V, V = ((wa.alloc (.cells #[.int .u64 (m : Int), .int .u64 (k : Int), .slice p2 m2 k2] 39)).alloc (.cells #[.int .u64 (m : Int), .int .u64 (k : Int), .slice p3 m3 k3] 39)).drew := ⟨_, rfl⟩
      have hbn : Below wa.heap.size wa V := by rw [hV]; exact (((Below.refl _ _).alloc (Nat.le_refl _) _).alloc (by simp) _).drew
      have kG : Blk V wa.heap.size 39 #[.int .u64 (m : Int), .int .u64 (k : Int), .slice p2 m2 k2] := by rw [hV]; exact ((Blk.new wa _ _).alloc _).drew
      have kH : Blk V (wa.heap.size + 1) 39 #[.int .u64 (m : Int), .int .u64 (k : Int), .slice p3 m3 k3] := by
        have h := (Blk.new (wa.alloc (.cells #[.int .u64 (m : Int), .int .u64 (k : Int), .slice p2 m2 k2] 39)) 39 #[.int .u64 (m : Int), .int .u64 (k : Int), .slice p3 m3 k3]).drew
        rw [← hV] at h
        simpa using h
      have HSl := Lib.hid (HSl.out.below rfl hbn)
      have HSw := Lib.hid (HSw.out.below rfl hbn)
      have HFi := Lib.hid (HFi.out.below rfl hbn)
      have HVb := Lib.hid (HVb.out.below rfl hbn)
      have HG := Lib.hid (HG.out.below rfl hbn)
      have HH := Lib.hid (HH.out.below rfl hbn)
      have HT := Lib.hid (HT.out.trans (hbn.mono HT.out.size))
      have c0 := (hbn.cell (p := ⟨w1.heap.size, 0, none⟩) HZ.out).trans c0
      have c1 := (hbn.cell (p := ⟨w1.heap.size, 1, none⟩) HZ.out).trans c1
      have c2 := (hbn.cell (p := ⟨w1.heap.size, 2, none⟩) HZ.out).trans c2
      have HZ := Lib.hid (Nat.lt_of_lt_of_le HZ.out hbn.size)
      have g0 : V.cell? ⟨wa.heap.size, 0, none⟩ = some (.int .u64 (m : Int)) := kG.cell 0 rfl
      have g1 : V.cell? ⟨wa.heap.size, 1, none⟩ = some (.int .u64 (k : Int)) := kG.cell 1 rfl
      have g2 : V.cell? ⟨wa.heap.size, 2, none⟩ = some (.slice p2 m2 k2) := kG.cell 2 rfl
      have h0 : V.cell? ⟨wa.heap.size + 1, 0, none⟩ = some (.int .u64 (m : Int)) := kH.cell 0 rfl
      have h1 : V.cell? ⟨wa.heap.size + 1, 1, none⟩ = some (.int .u64 (k : Int)) := kH.cell 1 rfl
      have h2 : V.cell? ⟨wa.heap.size + 1, 2, none⟩ = some (.slice p3 m3 k3) := kH.cell 2 rfl
      have HZg := Lib.hid kG.lt
      have HZh := Lib.hid kH.lt
      subst hV
      clear hbn kG kH
      go_wp2_with fail
      go_region_held3 (fun w' => w'.cell? ⟨w1.heap.size, 0, none⟩ = some (.int .u64 (m : Int)) ∧ w'.cell? ⟨w1.heap.size, 1, none⟩ = some (.int .u64 (k : Int)) ∧ w'.cell? ⟨w1.heap.size, 2, none⟩ = some (.slice p1 m1 k1) ∧ w'.cell? ⟨wa.heap.size, 0, none⟩ = some (.int .u64 (m : Int)) ∧ w'.cell? ⟨wa.heap.size, 1, none⟩ = some (.int .u64 (k : Int)) ∧ w'.cell? ⟨wa.heap.size, 2, none⟩ = some (.slice p2 m2 k2) ∧ w'.cell? ⟨wa.heap.size + 1, 0, none⟩ = some (.int .u64 (m : Int)) ∧ w'.cell? ⟨wa.heap.size + 1, 1, none⟩ = some (.int .u64 (k : Int)) ∧ w'.cell? ⟨wa.heap.size + 1, 2, none⟩ = some (.slice p3 m3 k3))
        ((first | go_keep | exact ⟨by assumption, by assumption, by assumption, by assumption, by assumption, by assumption, by assumption, by assumption, by assumption⟩))
        ((first
          | (go_at_call 18; have tok := HVn; (with_reducible refine Calls.mono (blsame_yes _ _ m k ws5 _ _ _ HC2.out HVn.out rfl (by have h1 := HC2l.out; have h2 := HN.out; omega) (by have h1 := HC2l.out; have h2 := HN.out; omega) HC2b.out (by omega)) ?_); rintro e wn ⟨rfl, hbn⟩; have HSl := Lib.hid (HSl.out.below rfl hbn); have HSw := Lib.hid (HSw.out.below rfl hbn); have HFi := Lib.hid (HFi.out.below rfl hbn); have HVb := Lib.hid (HVb.out.below rfl hbn); have HG := Lib.hid (HG.out.below rfl hbn); have HH := Lib.hid (HH.out.below rfl hbn); (try have HVl := Lib.hid (HVl.out.below rfl hbn)); (try have HVw := Lib.hid (HVw.out.below rfl hbn)); (try have HVn := Lib.hid (HVn.out.below rfl hbn)); (try have HC1 := Lib.hid (HC1.out.below rfl hbn)); (try have HC2 := Lib.hid (HC2.out.below rfl hbn)); have HT := Lib.hid (HT.out.trans (hbn.mono HT.out.size)); have c0 := (hbn.cell (p := ⟨w1.heap.size, 0, none⟩) HZ.out).trans c0; have c1 := (hbn.cell (p := ⟨w1.heap.size, 1, none⟩) HZ.out).trans c1; have c2 := (hbn.cell (p := ⟨w1.heap.size, 2, none⟩) HZ.out).trans c2; have g0 := (hbn.cell (p := ⟨wa.heap.size, 0, none⟩) HZg.out).trans g0; have g1 := (hbn.cell (p := ⟨wa.heap.size, 1, none⟩) HZg.out).trans g1; have g2 := (hbn.cell (p := ⟨wa.heap.size, 2, none⟩) HZg.out).trans g2; have h0 := (hbn.cell (p := ⟨(wa.heap.size + 1), 0, none⟩) HZh.out).trans h0; have h1 := (hbn.cell (p := ⟨(wa.heap.size + 1), 1, none⟩) HZh.out).trans h1; have h2 := (hbn.cell (p := ⟨(wa.heap.size + 1), 2, none⟩) HZh.out).trans h2; have HZ := Lib.hid (Nat.lt_of_lt_of_le HZ.out hbn.size); have HZg := Lib.hid (Nat.lt_of_lt_of_le HZg.out hbn.size); have HZh := Lib.hid (Nat.lt_of_lt_of_le HZh.out hbn.size); clear hbn)
          | (go_at_call 20; have tok := HC2; (with_reducible refine Calls.mono (blnone_any m _ (by omega)) ?_); rintro e wn ⟨vn, rfl, hown, hbn⟩; have HSl := Lib.hid (HSl.out.below rfl hbn); have HSw := Lib.hid (HSw.out.below rfl hbn); have HFi := Lib.hid (HFi.out.below rfl hbn); have HVb := Lib.hid (HVb.out.below rfl hbn); have HG := Lib.hid (HG.out.below rfl hbn); have HH := Lib.hid (HH.out.below rfl hbn); (try have HVl := Lib.hid (HVl.out.below rfl hbn)); (try have HVw := Lib.hid (HVw.out.below rfl hbn)); (try have HVn := Lib.hid (HVn.out.below rfl hbn)); (try have HC1 := Lib.hid (HC1.out.below rfl hbn)); (try have HC2 := Lib.hid (HC2.out.below rfl hbn)); have HT := Lib.hid (HT.out.trans (hbn.mono HT.out.size)); have c0 := (hbn.cell (p := ⟨w1.heap.size, 0, none⟩) HZ.out).trans c0; have c1 := (hbn.cell (p := ⟨w1.heap.size, 1, none⟩) HZ.out).trans c1; have c2 := (hbn.cell (p := ⟨w1.heap.size, 2, none⟩) HZ.out).trans c2; have g0 := (hbn.cell (p := ⟨wa.heap.size, 0, none⟩) HZg.out).trans g0; have g1 := (hbn.cell (p := ⟨wa.heap.size, 1, none⟩) HZg.out).trans g1; have g2 := (hbn.cell (p := ⟨wa.heap.size, 2, none⟩) HZg.out).trans g2; have h0 := (hbn.cell (p := ⟨(wa.heap.size + 1), 0, none⟩) HZh.out).trans h0; have h1 := (hbn.cell (p := ⟨(wa.heap.size + 1), 1, none⟩) HZh.out).trans h1; have h2 := (hbn.cell (p := ⟨(wa.heap.size + 1), 2, none⟩) HZh.out).trans h2; have HZ := Lib.hid (Nat.lt_of_lt_of_le HZ.out hbn.size); have HZg := Lib.hid (Nat.lt_of_lt_of_le HZg.out hbn.size); have HZh := Lib.hid (Nat.lt_of_lt_of_le HZh.out hbn.size); have HVn := Lib.hid (Sl.of_owns hown); clear hbn hown)
          | (go_at_call 37; (with_reducible refine Calls.mono (blclear_any m k ws _ _ HFi.out HN.out.2.1 (by have h2 := HN.out; omega)) ?_); rintro e wn ⟨v5, ws5, rfl, hof, hl, hbit, hbn⟩; have HSl := Lib.hid (HSl.out.below rfl hbn); have HSw := Lib.hid (HSw.out.below rfl hbn); have HFi := Lib.hid (HFi.out.below rfl hbn); have HVb := Lib.hid (HVb.out.below rfl hbn); have HG := Lib.hid (HG.out.below rfl hbn); have HH := Lib.hid (HH.out.below rfl hbn); (try have HVl := Lib.hid (HVl.out.below rfl hbn)); (try have HVw := Lib.hid (HVw.out.below rfl hbn)); (try have HVn := Lib.hid (HVn.out.below rfl hbn)); (try have HC1 := Lib.hid (HC1.out.below rfl hbn)); (try have HC2 := Lib.hid (HC2.out.below rfl hbn)); have HT := Lib.hid (HT.out.trans (hbn.mono HT.out.size)); have c0 := (hbn.cell (p := ⟨w1.heap.size, 0, none⟩) HZ.out).trans c0; have c1 := (hbn.cell (p := ⟨w1.heap.size, 1, none⟩) HZ.out).trans c1; have c2 := (hbn.cell (p := ⟨w1.heap.size, 2, none⟩) HZ.out).trans c2; have g0 := (hbn.cell (p := ⟨wa.heap.size, 0, none⟩) HZg.out).trans g0; have g1 := (hbn.cell (p := ⟨wa.heap.size, 1, none⟩) HZg.out).trans g1; have g2 := (hbn.cell (p := ⟨wa.heap.size, 2, none⟩) HZg.out).trans g2; have h0 := (hbn.cell (p := ⟨(wa.heap.size + 1), 0, none⟩) HZh.out).trans h0; have h1 := (hbn.cell (p := ⟨(wa.heap.size + 1), 1, none⟩) HZh.out).trans h1; have h2 := (hbn.cell (p := ⟨(wa.heap.size + 1), 2, none⟩) HZh.out).trans h2; have HZ := Lib.hid (Nat.lt_of_lt_of_le HZ.out hbn.size); have HZg := Lib.hid (Nat.lt_of_lt_of_le HZg.out hbn.size); have HZh := Lib.hid (Nat.lt_of_lt_of_le HZh.out hbn.size); have HC2 := Lib.hid hof.is; have HC2l := Lib.hid hl; have HC2b := Lib.hid (bits_none ws5 m hbit); obtain ⟨p5, m5, k5, rfl, _⟩ := hof; clear hbn hl hbit)
          | (go_at_call 18; have tok := HVw; (with_reducible refine Calls.mono (blsame_yes _ _ m k ws2 _ _ _ HG.out HVw.out rfl (by have h1 := HL2.out; have h2 := HN.out; omega) (by have h1 := HL2.out; have h2 := HN.out; omega) HBT2.out.symm (by omega)) ?_); rintro e wn ⟨rfl, hbn⟩; have HSl := Lib.hid (HSl.out.below rfl hbn); have HSw := Lib.hid (HSw.out.below rfl hbn); have HFi := Lib.hid (HFi.out.below rfl hbn); have HVb := Lib.hid (HVb.out.below rfl hbn); have HG := Lib.hid (HG.out.below rfl hbn); have HH := Lib.hid (HH.out.below rfl hbn); (try have HVl := Lib.hid (HVl.out.below rfl hbn)); (try have HVw := Lib.hid (HVw.out.below rfl hbn)); (try have HVn := Lib.hid (HVn.out.below rfl hbn)); (try have HC1 := Lib.hid (HC1.out.below rfl hbn)); (try have HC2 := Lib.hid (HC2.out.below rfl hbn)); have HT := Lib.hid (HT.out.trans (hbn.mono HT.out.size)); have c0 := (hbn.cell (p := ⟨w1.heap.size, 0, none⟩) HZ.out).trans c0; have c1 := (hbn.cell (p := ⟨w1.heap.size, 1, none⟩) HZ.out).trans c1; have c2 := (hbn.cell (p := ⟨w1.heap.size, 2, none⟩) HZ.out).trans c2; have g0 := (hbn.cell (p := ⟨wa.heap.size, 0, none⟩) HZg.out).trans g0; have g1 := (hbn.cell (p := ⟨wa.heap.size, 1, none⟩) HZg.out).trans g1; have g2 := (hbn.cell (p := ⟨wa.heap.size, 2, none⟩) HZg.out).trans g2; have h0 := (hbn.cell (p := ⟨(wa.heap.size + 1), 0, none⟩) HZh.out).trans h0; have h1 := (hbn.cell (p := ⟨(wa.heap.size + 1), 1, none⟩) HZh.out).trans h1; have h2 := (hbn.cell (p := ⟨(wa.heap.size + 1), 2, none⟩) HZh.out).trans h2; have HZ := Lib.hid (Nat.lt_of_lt_of_le HZ.out hbn.size); have HZg := Lib.hid (Nat.lt_of_lt_of_le HZg.out hbn.size); have HZh := Lib.hid (Nat.lt_of_lt_of_le HZh.out hbn.size); clear hbn)
          | (go_at_call 30; (with_reducible refine Calls.mono (blput_any _ _ L m k ws _ HVb.out HVl.out (by omega) (by omega) (by omega)) ?_); rintro e wn ⟨vw, rfl, hown, hbn⟩; have HSl := Lib.hid (HSl.out.below rfl hbn); have HSw := Lib.hid (HSw.out.below rfl hbn); have HFi := Lib.hid (HFi.out.below rfl hbn); have HVb := Lib.hid (HVb.out.below rfl hbn); have HG := Lib.hid (HG.out.below rfl hbn); have HH := Lib.hid (HH.out.below rfl hbn); (try have HVl := Lib.hid (HVl.out.below rfl hbn)); (try have HVw := Lib.hid (HVw.out.below rfl hbn)); (try have HVn := Lib.hid (HVn.out.below rfl hbn)); (try have HC1 := Lib.hid (HC1.out.below rfl hbn)); (try have HC2 := Lib.hid (HC2.out.below rfl hbn)); have HT := Lib.hid (HT.out.trans (hbn.mono HT.out.size)); have c0 := (hbn.cell (p := ⟨w1.heap.size, 0, none⟩) HZ.out).trans c0; have c1 := (hbn.cell (p := ⟨w1.heap.size, 1, none⟩) HZ.out).trans c1; have c2 := (hbn.cell (p := ⟨w1.heap.size, 2, none⟩) HZ.out).trans c2; have g0 := (hbn.cell (p := ⟨wa.heap.size, 0, none⟩) HZg.out).trans g0; have g1 := (hbn.cell (p := ⟨wa.heap.size, 1, none⟩) HZg.out).trans g1; have g2 := (hbn.cell (p := ⟨wa.heap.size, 2, none⟩) HZg.out).trans g2; have h0 := (hbn.cell (p := ⟨(wa.heap.size + 1), 0, none⟩) HZh.out).trans h0; have h1 := (hbn.cell (p := ⟨(wa.heap.size + 1), 1, none⟩) HZh.out).trans h1; have h2 := (hbn.cell (p := ⟨(wa.heap.size + 1), 2, none⟩) HZh.out).trans h2; have HZ := Lib.hid (Nat.lt_of_lt_of_le HZ.out hbn.size); have HZg := Lib.hid (Nat.lt_of_lt_of_le HZg.out hbn.size); have HZh := Lib.hid (Nat.lt_of_lt_of_le HZh.out hbn.size); have HVw := Lib.hid (Sl.of_owns hown); clear hbn hown)
          | (go_at_call 26; (with_reducible refine Calls.mono (bllocs_bt bs r1 r2 r3 r4 L HL.out HBASE.out dn dc k da _ (Bt.of_sl HSl.out) (by omega)) ?_); rintro e wn ⟨vl, rfl, hown, hbn⟩; have HSl := Lib.hid (HSl.out.below rfl hbn); have HSw := Lib.hid (HSw.out.below rfl hbn); have HFi := Lib.hid (HFi.out.below rfl hbn); have HVb := Lib.hid (HVb.out.below rfl hbn); have HG := Lib.hid (HG.out.below rfl hbn); have HH := Lib.hid (HH.out.below rfl hbn); (try have HVl := Lib.hid (HVl.out.below rfl hbn)); (try have HVw := Lib.hid (HVw.out.below rfl hbn)); (try have HVn := Lib.hid (HVn.out.below rfl hbn)); (try have HC1 := Lib.hid (HC1.out.below rfl hbn)); (try have HC2 := Lib.hid (HC2.out.below rfl hbn)); have HT := Lib.hid (HT.out.trans (hbn.mono HT.out.size)); have c0 := (hbn.cell (p := ⟨w1.heap.size, 0, none⟩) HZ.out).trans c0; have c1 := (hbn.cell (p := ⟨w1.heap.size, 1, none⟩) HZ.out).trans c1; have c2 := (hbn.cell (p := ⟨w1.heap.size, 2, none⟩) HZ.out).trans c2; have g0 := (hbn.cell (p := ⟨wa.heap.size, 0, none⟩) HZg.out).trans g0; have g1 := (hbn.cell (p := ⟨wa.heap.size, 1, none⟩) HZg.out).trans g1; have g2 := (hbn.cell (p := ⟨wa.heap.size, 2, none⟩) HZg.out).trans g2; have h0 := (hbn.cell (p := ⟨(wa.heap.size + 1), 0, none⟩) HZh.out).trans h0; have h1 := (hbn.cell (p := ⟨(wa.heap.size + 1), 1, none⟩) HZh.out).trans h1; have h2 := (hbn.cell (p := ⟨(wa.heap.size + 1), 2, none⟩) HZh.out).trans h2; have HZ := Lib.hid (Nat.lt_of_lt_of_le HZ.out hbn.size); have HZg := Lib.hid (Nat.lt_of_lt_of_le HZg.out hbn.size); have HZh := Lib.hid (Nat.lt_of_lt_of_le HZh.out hbn.size); have HVl := Lib.hid (Sl.of_owns hown); clear hbn hown)
          | (go_at_call 18; have tok := TOK1; (with_reducible refine Calls.mono (blsame_yes _ _ m k ws _ _ _ HH.out HVb.out rfl (by have h2 := HN.out; omega) (by have h2 := HN.out; omega) rfl (by omega)) ?_); rintro e wn ⟨rfl, hbn⟩; have HSl := Lib.hid (HSl.out.below rfl hbn); have HSw := Lib.hid (HSw.out.below rfl hbn); have HFi := Lib.hid (HFi.out.below rfl hbn); have HVb := Lib.hid (HVb.out.below rfl hbn); have HG := Lib.hid (HG.out.below rfl hbn); have HH := Lib.hid (HH.out.below rfl hbn); (try have HVl := Lib.hid (HVl.out.below rfl hbn)); (try have HVw := Lib.hid (HVw.out.below rfl hbn)); (try have HVn := Lib.hid (HVn.out.below rfl hbn)); (try have HC1 := Lib.hid (HC1.out.below rfl hbn)); (try have HC2 := Lib.hid (HC2.out.below rfl hbn)); have HT := Lib.hid (HT.out.trans (hbn.mono HT.out.size)); have c0 := (hbn.cell (p := ⟨w1.heap.size, 0, none⟩) HZ.out).trans c0; have c1 := (hbn.cell (p := ⟨w1.heap.size, 1, none⟩) HZ.out).trans c1; have c2 := (hbn.cell (p := ⟨w1.heap.size, 2, none⟩) HZ.out).trans c2; have g0 := (hbn.cell (p := ⟨wa.heap.size, 0, none⟩) HZg.out).trans g0; have g1 := (hbn.cell (p := ⟨wa.heap.size, 1, none⟩) HZg.out).trans g1; have g2 := (hbn.cell (p := ⟨wa.heap.size, 2, none⟩) HZg.out).trans g2; have h0 := (hbn.cell (p := ⟨(wa.heap.size + 1), 0, none⟩) HZh.out).trans h0; have h1 := (hbn.cell (p := ⟨(wa.heap.size + 1), 1, none⟩) HZh.out).trans h1; have h2 := (hbn.cell (p := ⟨(wa.heap.size + 1), 2, none⟩) HZh.out).trans h2; have HZ := Lib.hid (Nat.lt_of_lt_of_le HZ.out hbn.size); have HZg := Lib.hid (Nat.lt_of_lt_of_le HZg.out hbn.size); have HZh := Lib.hid (Nat.lt_of_lt_of_le HZh.out hbn.size); clear hbn)
          | (go_at_call 18; have tok := HC1; (with_reducible refine Calls.mono (blsame_yes _ _ m k ws4 _ _ _ HC1.out HVb.out rfl (by have h1 := HC1l.out; have h2 := HN.out; omega) (by have h1 := HC1l.out; have h2 := HN.out; omega) HC1b.out (by omega)) ?_); rintro e wn ⟨rfl, hbn⟩; have HSl := Lib.hid (HSl.out.below rfl hbn); have HSw := Lib.hid (HSw.out.below rfl hbn); have HFi := Lib.hid (HFi.out.below rfl hbn); have HVb := Lib.hid (HVb.out.below rfl hbn); have HG := Lib.hid (HG.out.below rfl hbn); have HH := Lib.hid (HH.out.below rfl hbn); (try have HVl := Lib.hid (HVl.out.below rfl hbn)); (try have HVw := Lib.hid (HVw.out.below rfl hbn)); (try have HVn := Lib.hid (HVn.out.below rfl hbn)); (try have HC1 := Lib.hid (HC1.out.below rfl hbn)); (try have HC2 := Lib.hid (HC2.out.below rfl hbn)); have HT := Lib.hid (HT.out.trans (hbn.mono HT.out.size)); have c0 := (hbn.cell (p := ⟨w1.heap.size, 0, none⟩) HZ.out).trans c0; have c1 := (hbn.cell (p := ⟨w1.heap.size, 1, none⟩) HZ.out).trans c1; have c2 := (hbn.cell (p := ⟨w1.heap.size, 2, none⟩) HZ.out).trans c2; have g0 := (hbn.cell (p := ⟨wa.heap.size, 0, none⟩) HZg.out).trans g0; have g1 := (hbn.cell (p := ⟨wa.heap.size, 1, none⟩) HZg.out).trans g1; have g2 := (hbn.cell (p := ⟨wa.heap.size, 2, none⟩) HZg.out).trans g2; have h0 := (hbn.cell (p := ⟨(wa.heap.size + 1), 0, none⟩) HZh.out).trans h0; have h1 := (hbn.cell (p := ⟨(wa.heap.size + 1), 1, none⟩) HZh.out).trans h1; have h2 := (hbn.cell (p := ⟨(wa.heap.size + 1), 2, none⟩) HZh.out).trans h2; have HZ := Lib.hid (Nat.lt_of_lt_of_le HZ.out hbn.size); have HZg := Lib.hid (Nat.lt_of_lt_of_le HZg.out hbn.size); have HZh := Lib.hid (Nat.lt_of_lt_of_le HZh.out hbn.size); have TOK1 := Lib.hid trivial; clear hbn)
          | (go_at_call 36; (with_reducible refine Calls.mono (blcopy_any m k ws _ _ HFi.out HN.out.2.1 (by omega) (by omega) (by omega) HN.out.1 HN.out.2.2) ?_); rintro e wn ⟨v4, ws4, rfl, hof, hl, hbit, hbn⟩; have HSl := Lib.hid (HSl.out.below rfl hbn); have HSw := Lib.hid (HSw.out.below rfl hbn); have HFi := Lib.hid (HFi.out.below rfl hbn); have HVb := Lib.hid (HVb.out.below rfl hbn); have HG := Lib.hid (HG.out.below rfl hbn); have HH := Lib.hid (HH.out.below rfl hbn); (try have HVl := Lib.hid (HVl.out.below rfl hbn)); (try have HVw := Lib.hid (HVw.out.below rfl hbn)); (try have HVn := Lib.hid (HVn.out.below rfl hbn)); (try have HC1 := Lib.hid (HC1.out.below rfl hbn)); (try have HC2 := Lib.hid (HC2.out.below rfl hbn)); have HT := Lib.hid (HT.out.trans (hbn.mono HT.out.size)); have c0 := (hbn.cell (p := ⟨w1.heap.size, 0, none⟩) HZ.out).trans c0; have c1 := (hbn.cell (p := ⟨w1.heap.size, 1, none⟩) HZ.out).trans c1; have c2 := (hbn.cell (p := ⟨w1.heap.size, 2, none⟩) HZ.out).trans c2; have g0 := (hbn.cell (p := ⟨wa.heap.size, 0, none⟩) HZg.out).trans g0; have g1 := (hbn.cell (p := ⟨wa.heap.size, 1, none⟩) HZg.out).trans g1; have g2 := (hbn.cell (p := ⟨wa.heap.size, 2, none⟩) HZg.out).trans g2; have h0 := (hbn.cell (p := ⟨(wa.heap.size + 1), 0, none⟩) HZh.out).trans h0; have h1 := (hbn.cell (p := ⟨(wa.heap.size + 1), 1, none⟩) HZh.out).trans h1; have h2 := (hbn.cell (p := ⟨(wa.heap.size + 1), 2, none⟩) HZh.out).trans h2; have HZ := Lib.hid (Nat.lt_of_lt_of_le HZ.out hbn.size); have HZg := Lib.hid (Nat.lt_of_lt_of_le HZg.out hbn.size); have HZh := Lib.hid (Nat.lt_of_lt_of_le HZh.out hbn.size); have HC1 := Lib.hid hof.is; have HC1l := Lib.hid hl; have HC1b := Lib.hid (bits_same ws4 ws m hbit); obtain ⟨p4, m4, k4, rfl, _⟩ := hof; clear hbn hl hbit))) 
      all_goals
        go_wp2_with fail
        go_ret
        exact ⟨rfl, HT.out⟩
end Go.Proofs.Ytbcbkieebelleaa
