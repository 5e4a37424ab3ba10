/- FnBLTest. -/
import Derived.Test.YtbcbkieebelleaaBlStr
import Derived.Test.YtbcbkieebelleaaBlOpen
import Derived.Outline
namespace Go.Proofs.Ytbcbkieebelleaa
set_option linter.unusedVariables false
open Go.RowKit

def AnyU8b (w : World) (v : Value) : Prop := ∃ xs : List Int, Sl w v (u8s xs) ∧ ∀ x ∈ xs, 0 ≤ x ∧ x ≤ 255
set_option maxRecDepth 100000 in
theorem open_u8b {H : Type} {enc : TypeId × Value → H} {W : World} {v : Value} {d : DataW H} {p : List MemPlace} {r : Reach} {b0 : Nat}
    (hv : Value.okWide Try.prog W r b0 49 v) (h : DataW.Trod enc Try.prog W 0 (fun _ => true) true 49 v d p) : AnyU8b W v := by
  obtain ⟨xs, hsl, hwf⟩ := open_isints Try.underlying49 Try.underlying5 (by kernel_rfl) hv h
  refine ⟨xs, hsl, fun x hx => ?_⟩
  have hz := hwf x hx
  simp [Lit.wf, IntKind.min, IntKind.max, IntKind.signed, IntKind.bits] at hz
  omega

set_option maxRecDepth 100000 in
set_option maxHeartbeats 1000000 in
theorem bldatab_any (v : Value) (xs : List Int) (w : World) (hv : Sl w v (u8s xs)) :
    Calls Try.prog 25 #[v] w fun e w' => ∃ a n cap, e = .returned (.slice a n cap) ∧ w = w' ∧ n ≤ 80 ∧ ∃ bs, Sl w (.slice a n cap) (u8s bs) ∧ ∀ x ∈ bs, x ∈ xs := by
  have hv0 := hv
  obtain ⟨a, n, cap, rfl, hl, hc, hm, hr⟩ := hv0
  have hm2 : (n : Int) ≤ 9223372036854775807 := by unfold maxLen at hm; omega
  have HV := Lib.hid hv
  have HL := Lib.hid hl
  have HC := Lib.hid hc
  have HM := Lib.hid hm
  have HR := Lib.hid hr
  clear hv hl hc hm hr
  by_cases hn : 80 < n
  · have h80 : 80 ≤ cap := by have := HC.out; omega
    have h80i : (80 : Int) ≤ (cap : Int) := by omega
    go_enter Try.func25, Try.ntmps25
    go_wp2_with fail
    go_ret
    refine ⟨_, _, _, rfl, rfl, Nat.le_refl _, xs.take 80, ⟨a, 80, cap, rfl, ?_, h80, HM.out, fun h0 => ?_⟩, fun x hx => List.mem_of_mem_take hx⟩
    · have := HL.out
      simp [u8s] at this ⊢
      omega
    · obtain ⟨b, o, ha, hcell⟩ := HR.out (by omega)
      refine ⟨b, o, ha, fun i u hu => hcell i u ?_⟩
      unfold u8s at hu ⊢
      rw [List.map_take] at hu
      rw [List.getElem?_take] at hu
      split at hu
      · exact hu
      · cases hu
  · go_enter Try.func25, Try.ntmps25
    go_wp2_with fail
    go_ret
    exact ⟨_, _, _, rfl, rfl, by omega, xs, HV.out, fun x hx => hx⟩

theorem bllocs_bt (bs : List Int) (r1 r2 r3 r4 : Int) (L : Nat → Nat) (hL : LocIs r1 r2 r3 r4 L) (hbase : BaseIs bs r1 r2 r3 r4) (n cap m : Nat) (a : Option Addr) (w : World) (hd : Bt w a n cap bs) (hm : m ≤ 100000) :
    Calls Try.prog 26 #[.slice a n cap, .int .u64 (m : Int)] w fun e w' => ∃ v', e = .returned v' ∧ w'.ownsRow w.heap.size 52 1 v' m (u64s (lays L m m)) ∧ Below w.heap.size w w' :=
  bllocs_any bs r1 r2 r3 r4 L hL hbase n cap m a w hd.1 hd.2.1 hd.2.2.1 hd.2.2.2.1 hd.2.2.2.2 hm

theorem all_tests (L : Nat → Nat) (m k : Nat) (ws : List Nat) (hm : 0 < m) :
    ((lays L k k).all fun l => (Bsm.bitsOf ws m).getD (l % (Bsm.bitsOf ws m).length) false) = tests L m k ws := by
  unfold lays tests
  rw [List.all_map, Bsm.bitsOf_len, Bool.eq_iff_iff, List.all_eq_true, List.all_eq_true]
  have e : ∀ i, i < k → ((Bsm.bitsOf ws m).getD ((if i < k then L i else 0) % m) false) = Bsm.bit ws (L i % m) := by
    intro i hi
    rw [Bsm.bitsOf_get, if_pos hi]
    have : L i % m < m := Nat.mod_lt _ hm
    simp [this]
  constructor
  · intro h i hi
    rw [← e i (List.mem_range.1 hi)]
    exact h i hi
  · intro h i hi
    have := h i hi
    rw [← e i (List.mem_range.1 hi)] at this
    exact this

set_option maxRecDepth 100000 in
set_option maxHeartbeats 8000000 in
theorem law_bltest (a b : Int) (v u : Value) (w : World) (ha : (Lit.int .u16 a).wf = true) (hb : (Lit.int .u8 b).wf = true) (hv : AnyU64s w v) (hu : AnyU8b w u) :
    Calls Try.prog 7 #[.int .u16 a, .int .u8 b, v, u] w fun e w' => e = .returned (.bool true) ∧ Below w.heap.size w w' := by
  have hA : 0 ≤ a ∧ a ≤ 65535 := by simp [Lit.wf, IntKind.min, IntKind.max, IntKind.signed, IntKind.bits] at ha; omega
  have hB : 0 ≤ b ∧ b ≤ 255 := by simp [Lit.wf, IntKind.min, IntKind.max, IntKind.signed, IntKind.bits] at hb; omega
  obtain ⟨x, rfl⟩ := Int.eq_ofNat_of_zero_le hA.1
  obtain ⟨y, rfl⟩ := Int.eq_ofNat_of_zero_le hB.1
  have hA2 : x ≤ 65535 := by omega
  have hB2 : y ≤ 255 := by omega
  obtain ⟨xs, hs, hx⟩ := hv
  obtain ⟨ys, hs2, hx2⟩ := hu
  have hs0 := hs
  have hs02 := hs2
  obtain ⟨a1, n1, c1, rfl, _, _, hm1, _⟩ := hs0
  obtain ⟨a2, n2, c2, rfl, _, _, hm2, _⟩ := hs02
  unfold maxLen at hm1 hm2
  have hn1 : (n1 : Int) ≤ 9223372036854775807 := by omega
  have hn2 : (n2 : Int) ≤ 9223372036854775807 := by omega
  have HS := Lib.hid hs
  have HX := Lib.hid hx
  have HS2 := Lib.hid hs2
  have HX2 := Lib.hid hx2
  obtain ⟨m, hm⟩ : ∃ m, 1 + x % 700 = m := ⟨_, rfl⟩
  obtain ⟨k, hk⟩ : ∃ k, 1 + y % 8 = k := ⟨_, rfl⟩
  have hm7 : m ≤ 700 := by omega
  have hm0 : 1 ≤ m := by omega
  have hk8 : k ≤ 8 := by omega
  have HM := Lib.hid hm
  have HK := Lib.hid hk
  clear hA hB ha hb hs hx hs2 hx2 hm1 hm2 hm hk
  by_cases hf : (2147483647 : Int) < (n1 : Int)
  · go_enter Try.func7, Try.ntmps7
    go_wp2_with fail
    go_ret
    exact ⟨rfl, Below.refl _ _⟩
  · have hf1 : decide ((2147483647 : Int) < (n1 : Int)) = false := by simpa using hf
    clear hf
    by_cases hf2 : (2147483647 : Int) < (n2 : Int)
    · go_enter Try.func7, Try.ntmps7
      go_wp2_with fail
      go_ret
      exact ⟨rfl, Below.refl _ _⟩
    · have hf3 : decide ((2147483647 : Int) < (n2 : Int)) = false := by simpa using hf2
      clear hf2
      go_enter Try.func7, Try.ntmps7
      go_wp2_with fail
      refine (blfilter_any x y _ xs _ hA2 hB2 HS.out HX.out).mono ?_
      rintro e w1 ⟨v1, ws, rfl, hof, hl, hb1⟩
      rw [HM.out, HK.out] at hof
      rw [HM.out] at hl
      have HOF := Lib.hid hof
      have HLW := Lib.hid hl
      have HB1 := Lib.hid hb1
      obtain ⟨p1, m1, k1, rfl, _⟩ := hof
      have HS2b := Lib.hid (HS2.out.below rfl hb1)
      clear hl hb1
      go_wp2_with fail
      refine (bldatab_any _ ys w1 HS2b.out).mono ?_
      rintro e w' ⟨da, dn, dc, rfl, rfl, hn80, bs, hsl, hmem⟩
      have hbt := Bt.of_sl hsl
      have hbl : bs.length ≤ 100000 := by rw [← hbt.2.1]; omega
      obtain ⟨r1, r2, r3, r4, L, hL, hbase⟩ := locs_ex bs hbl
      have HL : Hid (LocIs r1 r2 r3 r4 L) := Lib.hid hL
      have HBASE : Hid (BaseIs bs r1 r2 r3 r4) := Lib.hid hbase
      have HBB := Lib.hid (fun z hz => HX2.out z (hmem z hz) : ∀ z ∈ bs, 0 ≤ z ∧ z ≤ 255)
      have HBL := Lib.hid hbl
      obtain ⟨X, hX⟩ : ∃ X, tests L m k ws = X := ⟨_, rfl⟩
      have HALL : Hid (∀ (wz : World) (vz uz : Value), Sl wz vz (bools (Bsm.bitsOf ws m)) → Sl wz uz (u64s (lays L k k)) → Calls Try.prog 27 #[vz, uz] wz fun e w' => e = .returned (.bool X) ∧ wz = w') := by
        refine Lib.hid fun wz vz uz h1 h2 => ?_
        have h := blall_any vz uz _ _ wz h1 h2 (by rw [Bsm.bitsOf_len]; omega) (by rw [Bsm.bitsOf_len]; omega) (by rw [lays_len]; omega)
        rw [all_tests L m k ws (by omega), hX] at h
        exact h
      have HXX := Lib.hid hX
      obtain ⟨W4, hW4⟩ : ∃ W4, W4 = (w1.alloc (.cells #[.int .u64 (m : Int), .int .u64 (k : Int), .slice p1 m1 k1] 39)).drew := ⟨_, rfl⟩
      have hb4 : Below w1.heap.size w1 W4 := by rw [hW4]; exact ((Below.refl _ _).alloc (Nat.le_refl _) _).drew
      have kA : Blk W4 w1.heap.size 39 #[.int .u64 (m : Int), .int .u64 (k : Int), .slice p1 m1 k1] := by
        rw [hW4]; exact (Blk.new w1 _ _).drew
      have HSl := Lib.hid (hsl.below rfl hb4)
      have HFi := Lib.hid (HOF.out.is.below rfl hb4)
      have HT := Lib.hid (HB1.out.trans (hb4.mono HB1.out.size))
      have HZ := Lib.hid kA.lt
      have c0 : W4.cell? ⟨w1.heap.size, 0, none⟩ = some (.int .u64 (m : Int)) := kA.cell 0 rfl
      have c1 : W4.cell? ⟨w1.heap.size, 1, none⟩ = some (.int .u64 (k : Int)) := kA.cell 1 rfl
      have c2 : W4.cell? ⟨w1.heap.size, 2, none⟩ = some (.slice p1 m1 k1) := kA.cell 2 rfl
      subst hW4
      clear hb4 kA hsl hmem hbt hbl hL hbase hX hn80
      have HSw : Hid (Sl (w1.alloc (.cells #[.int .u64 (m : Int), .int .u64 (k : Int), .slice p1 m1 k1] 39)).drew (.slice p1 m1 k1) (u64s ws)) := by
        obtain ⟨_, _, _, e, h, _⟩ := HFi.out
        cases e
        exact Lib.hid h
      have HXw : Hid (∀ z ∈ ws, z < 18446744073709551616) := by
        obtain ⟨_, _, _, _, _, h⟩ := HFi.out
        exact Lib.hid h
      cases X
      all_goals
        go_wp2_with fail
        go_region_held3 (fun w' => w'.cell? ⟨w1.heap.size, 0, none⟩ = some (.int .u64 (m : Int)) ∧ w'.cell? ⟨w1.heap.size, 1, none⟩ = some (.int .u64 (k : Int)) ∧ w'.cell? ⟨w1.heap.size, 2, none⟩ = some (.slice p1 m1 k1))
          ((first | go_keep | exact ⟨by assumption, by assumption, by assumption⟩))
          ((first
            | (go_at_call 27; (with_reducible refine Calls.mono (HALL.out _ _ _ HVb.out HVl.out) ?_); rintro e wn ⟨rfl, rfl⟩)
            | (go_at_call 24; (with_reducible refine Calls.mono (blbits_any m _ rfl _ (.slice p1 m1 k1) ws _ HSw.out HXw.out (by omega)) ?_); rintro e wn ⟨vb, rfl, hown, hbn⟩; have HSl := Lib.hid (HSl.out.below rfl hbn); have HSw := Lib.hid (HSw.out.below rfl hbn); have HFi := Lib.hid (HFi.out.below rfl hbn); (try have HVb := Lib.hid (HVb.out.below rfl hbn)); (try have HVl := Lib.hid (HVl.out.below rfl hbn)); have HT := Lib.hid (HT.out.trans (hbn.mono HT.out.size)); have c0 := (hbn.cell (p := ⟨w1.heap.size, 0, none⟩) HZ.out).trans c0; have c1 := (hbn.cell (p := ⟨w1.heap.size, 1, none⟩) HZ.out).trans c1; have c2 := (hbn.cell (p := ⟨w1.heap.size, 2, none⟩) HZ.out).trans c2; have HZ := Lib.hid (Nat.lt_of_lt_of_le HZ.out hbn.size); have HVb := Lib.hid (Sl.of_owns hown); clear hbn hown)
            | (go_at_call 26; (with_reducible refine Calls.mono (bllocs_bt bs r1 r2 r3 r4 L HL.out HBASE.out dn dc k da _ (Bt.of_sl HSl.out) (by omega)) ?_); rintro e wn ⟨vl, rfl, hown, hbn⟩; have HSl := Lib.hid (HSl.out.below rfl hbn); have HSw := Lib.hid (HSw.out.below rfl hbn); have HFi := Lib.hid (HFi.out.below rfl hbn); (try have HVb := Lib.hid (HVb.out.below rfl hbn)); (try have HVl := Lib.hid (HVl.out.below rfl hbn)); have HT := Lib.hid (HT.out.trans (hbn.mono HT.out.size)); have c0 := (hbn.cell (p := ⟨w1.heap.size, 0, none⟩) HZ.out).trans c0; have c1 := (hbn.cell (p := ⟨w1.heap.size, 1, none⟩) HZ.out).trans c1; have c2 := (hbn.cell (p := ⟨w1.heap.size, 2, none⟩) HZ.out).trans c2; have HZ := Lib.hid (Nat.lt_of_lt_of_le HZ.out hbn.size); have HVl := Lib.hid (Sl.of_owns hown); clear hbn hown)))
        all_goals
          go_wp2_with fail
          refine (bltest_any bs r1 r2 r3 r4 L HL.out HBASE.out m k ws _ da dn dc _ HFi.out (Bt.of_sl HSl.out) (by omega) (by rw [HLW.out]; omega) (by rw [HLW.out]; omega) (by omega)).mono ?_
          rintro e wp ⟨rfl, hbn⟩
          rw [HXX.out]
          have HSl := Lib.hid (HSl.out.below rfl hbn)
          have HSw := Lib.hid (HSw.out.below rfl hbn)
          have HFi := Lib.hid (HFi.out.below rfl hbn)
          (try have HVb := Lib.hid (HVb.out.below rfl hbn))
          (try have HVl := Lib.hid (HVl.out.below rfl hbn))
          have HT := Lib.hid (HT.out.trans (hbn.mono HT.out.size))
          have c0 := (hbn.cell (p := ⟨w1.heap.size, 0, none⟩) HZ.out).trans c0
          have c1 := (hbn.cell (p := ⟨w1.heap.size, 1, none⟩) HZ.out).trans c1
          have c2 := (hbn.cell (p := ⟨w1.heap.size, 2, none⟩) HZ.out).trans c2
          have HZ := Lib.hid (Nat.lt_of_lt_of_le HZ.out hbn.size)
          have hconv := str_of (P := Try.prog) HSl.out 49 9 5 (by kernel_rfl) (by kernel_rfl) (by kernel_rfl)
          clear hbn
          go_wp2_with fail
          refine (blteststr_any bs r1 r2 r3 r4 L HL.out HBASE.out m k ws _ _ HFi.out HBB.out HBL.out (by omega) (by rw [HLW.out]; omega) (by rw [HLW.out]; omega) (by omega)).mono ?_
          rintro e wq ⟨rfl, hbn⟩
          rw [HXX.out]
          have HT := Lib.hid (HT.out.trans (hbn.mono HT.out.size))
          clear hbn
          go_wp2_with fail
          go_ret
          exact ⟨rfl, HT.out⟩
end Go.Proofs.Ytbcbkieebelleaa
