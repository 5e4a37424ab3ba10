/- Walk of (*BloomFilter).TestOrAdd. -/
import Derived.Test.YtbcbkieebelleaaBlTest
import Derived.Outline
namespace Go.Proofs.Ytbcbkieebelleaa
set_option linter.unusedVariables false
open Go.RowKit

theorem tests_succ (L : Nat → Nat) (m i : Nat) (ws : List Nat) : tests L m (i + 1) ws = (tests L m i ws && Bsm.bit ws (L i % m)) := by
  unfold tests
  rw [List.range_succ, List.all_append]
  simp
theorem tora_same (L : Nat → Nat) (m i : Nat) (ws : List Nat) (l : Nat) (h : (Bsm.bit ws l || hits L m i l) = true) : (tests L m i ws && Bsm.bit ws l) = tests L m i ws := by
  cases hb : Bsm.bit ws l with
  | true => simp
  | false =>
    rw [hb, Bool.false_or] at h
    unfold hits at h
    rw [List.any_eq_true] at h
    obtain ⟨q, hq, he⟩ := h
    have he2 : L q % m = l := by simpa using he
    rw [tests_not L m i ws q (List.mem_range.1 hq) (by rw [he2]; exact hb)]
    rfl

def ToraLoop (r1 r2 r3 r4 : Int) (L : Nat → Nat) (B f p m k Lb g n : Nat) (ws : List Nat) (cap hb : Nat) (w : World) (c : Nat) (pv iv : Value) (wr : World) : Prop :=
  ∃ (i : Nat) (ws' : List Nat), pv = .bool (tests L m i ws) ∧ iv = .int .u64 (i : Int) ∧ i + c = k ∧ Bs B wr p Lb ws' cap ∧ ws'.length = n ∧ (∀ j, Bsm.bit ws' j = (Bsm.bit ws j || hits L m i j)) ∧
    Blk wr f 99 #[.int .u64 (m : Int), .int .u64 (k : Int), .pointer (some ⟨p, 0, none⟩)] ∧ wr.cell? ⟨p, 1, none⟩ = some (.slice (some ⟨g, 0, none⟩) n cap) ∧
    Blk wr hb 102 #[.int .u64 r1, .int .u64 r2, .int .u64 r3, .int .u64 r4] ∧ Below B w wr ∧ w.heap.size ≤ wr.heap.size

set_option maxRecDepth 100000 in
set_option maxHeartbeats 4000000 in
theorem tora_any (bs : List Int) (r1 r2 r3 r4 : Int) (L : Nat → Nat) (hL : LocIs r1 r2 r3 r4 L) (hbase : BaseIs bs r1 r2 r3 r4) (B f p m k Lb : Nat) (ws : List Nat) (cap : Nat) (a : Option Addr) (dn dc : Nat) (w : World)
    (hb : Bf B w f p m k Lb ws cap) (hd : Bt w a dn dc bs) (hm : 0 < m) (hmL : m ≤ Lb) (hLw : Lb ≤ 64 * ws.length) (hL5 : Lb ≤ 100000) (hk : k ≤ 100000) :
    Calls Try.prog 50 #[.pointer (some ⟨f, 0, none⟩), .slice a dn dc] w fun e w' => e = .returned (.bool (tests L m k ws)) ∧
      ∃ ws', Bf B w' f p m k Lb ws' cap ∧ ws'.length = ws.length ∧ (∀ j, Bsm.bit ws' j = (Bsm.bit ws j || hits L m k j)) ∧ Below B w w' ∧ w.heap.size ≤ w'.heap.size := by
  obtain ⟨hf1, hf2, hf3, hf4, hf5⟩ := hb
  obtain ⟨g, hg1, hg2, hg3, hg4, hg5⟩ := hf3.wordsAt
  obtain ⟨n, hn⟩ : ∃ n, ws.length = n := ⟨_, rfl⟩
  rw [hn] at hg1 hLw
  have hfg : g ≠ f := hf5 g (by rw [hn]; exact hg1)
  have HL := Lib.hid hL
  have HBC := Lib.hid (hbase dn dc a w hd.1 hd.2.1 hd.2.2.1 hd.2.2.2.1 hd.2.2.2.2)
  have HF1 := Lib.hid hf1
  have HF2 := Lib.hid hf2
  have HF3 := Lib.hid hf3
  have HF4 := Lib.hid hf4
  have HG1 := Lib.hid hg1
  have HGS := Lib.hid (show g < w.heap.size ∧ p < w.heap.size ∧ B ≤ w.heap.size from ⟨hg3, hg5, by omega⟩)
  have HFG := Lib.hid hfg
  have HN := Lib.hid hn
  have HLW := Lib.hid hLw
  clear hL hbase hd hf1 hf2 hf3 hf4 hf5 hg1 hg2 hg3 hg4 hg5 hfg hLw
  go_enter Try.func50, Try.ntmps50
  go_wp2_with fail
  refine HBC.out.mono ?_
  rintro e w2 ⟨rfl, hb2⟩
  have hbB : Below w.heap.size w (w2.alloc (.cells #[.int .u64 r1, .int .u64 r2, .int .u64 r3, .int .u64 r4] 102)) := hb2.alloc hb2.size _
  have HBB := Lib.hid hbB
  have HZ2 := Lib.hid hb2.size
  have HBK := Lib.hid (Blk.new w2 102 #[.int .u64 r1, .int .u64 r2, .int .u64 r3, .int .u64 r4])
  clear hb2 hbB
  go_wp2_with fail
  go_loopg [5, 7] k (fun c pv iv wr => ToraLoop r1 r2 r3 r4 L B f p m k Lb g n ws cap w2.heap.size w c pv iv wr)
  case atStart =>
    refine ⟨0, ws, rfl, rfl, by omega, HF3.out.below HBB.out, HN.out, fun j => by simp [hits], HF2.out.below HBB.out HF2.out.lt, ?_, HBK.out, HBB.out.mono HGS.out.2.2, HBB.out.size⟩
    exact (HBB.out.cell (p := ⟨p, 1, none⟩) HGS.out.2.1).trans HG1.out
  case round =>
    obtain ⟨i, ws', rfl, rfl, hik, hbs, hwn, hbit, hblk, hcp, hhb, hbel, hsz⟩ := hrel
    have q1 : wr.cell? ⟨f, 1, none⟩ = some (.int .u64 (k : Int)) := hblk.cell 1 rfl
    have HBS := Lib.hid hbs
    have HWN := Lib.hid hwn
    have HBIT := Lib.hid hbit
    have HBLK := Lib.hid hblk
    have HCP := Lib.hid hcp
    have HHB := Lib.hid hhb
    have HBEL := Lib.hid hbel
    have HSZ := Lib.hid hsz
    clear hbs hwn hbit hblk hcp hhb hbel hsz
    by_cases hi : i < k
    · cases gk with
      | zero => omega
      | succ c =>
        obtain ⟨l, hl⟩ : ∃ l, L i % m = l := ⟨_, rfl⟩
        have hlm : l < m := by rw [← hl]; exact Nat.mod_lt _ hm
        have u0 : wr.cell? ⟨w2.heap.size, 0, none⟩ = some (.int .u64 r1) := HHB.out.cell 0 rfl
        have u1 : wr.cell? ⟨w2.heap.size, 1, none⟩ = some (.int .u64 r2) := HHB.out.cell 1 rfl
        have u2 : wr.cell? ⟨w2.heap.size, 2, none⟩ = some (.int .u64 r3) := HHB.out.cell 2 rfl
        have u3 : wr.cell? ⟨w2.heap.size, 3, none⟩ = some (.int .u64 r4) := HHB.out.cell 3 rfl
        have HC := Lib.hid (flloc_any r1 r2 r3 r4 L HL.out f m i l wr (HBLK.out.cell 0 rfl) hm (by omega) (by omega) hl)
        have HLM := Lib.hid hlm
        have HLL := Lib.hid hl
        obtain ⟨X, hX⟩ : ∃ X, Bsm.bit ws' l = X := ⟨_, rfl⟩
        have HX := Lib.hid hX
        have hts := tests_succ L m i ws
        rw [hl] at hts
        have HTS := Lib.hid hts
        obtain ⟨T, hT⟩ : ∃ T, tests L m i ws = T := ⟨_, rfl⟩
        have HTT := Lib.hid hT
        rw [hT]
        clear hlm hl hX hts hT
        go_wp2_with fail
        refine HC.out.mono ?_
        rintro e w3 ⟨rfl, hb3⟩
        have HB3 := Lib.hid hb3
        have HS3 := Lib.hid (HBS.out.below hb3)
        have bk3 := HBLK.out.below hb3 HBLK.out.lt
        have d2 : w3.cell? ⟨f, 2, none⟩ = some (.pointer (some ⟨p, 0, none⟩)) := bk3.cell 2 rfl
        have HK3 := Lib.hid bk3
        have HH3 := Lib.hid (HHB.out.below hb3 HHB.out.lt)
        have HC3 : Hid (w3.cell? ⟨p, 1, none⟩ = some (.slice (some ⟨g, 0, none⟩) ws'.length cap)) := by
          rw [HWN.out]
          exact Lib.hid ((hb3.cell (p := ⟨p, 1, none⟩) (Nat.lt_of_lt_of_le HGS.out.2.1 HSZ.out)).trans HCP.out)
        have HT1 : Hid (Calls Try.prog 59 #[.pointer (some ⟨p, 0, none⟩), .int .u64 (l : Int)] w3 fun e w' => e = .returned (.bool X) ∧ ∃ nq, w' = w3.drewN nq) := by
          have ht := test_any B p Lb l ws' cap w3 HS3.out (by rw [HWN.out]; exact HLW.out) hL5 (by have := HLM.out; omega)
          have e : (decide (l < Lb) && Bsm.bit ws' l) = X := by
            rw [HX.out]
            have h := HLM.out
            have : decide (l < Lb) = true := by simp; omega
            rw [this, Bool.true_and]
          rw [e] at ht
          exact Lib.hid ht
        clear hb3 bk3 u0 u1 u2 u3 q1
        cases X with
        | false =>
          go_wp2_with fail
          refine HT1.out.mono ?_
          rintro e w4 ⟨rfl, nq, rfl⟩
          have d2q : (w3.drewN nq).cell? ⟨f, 2, none⟩ = some (.pointer (some ⟨p, 0, none⟩)) := d2
          have HSET := Lib.hid (set_far B p Lb l ws' cap (w3.drewN nq) (HS3.out.drewN nq) (by have := HLM.out; omega) (by rw [HWN.out]; exact HLW.out) hL5 g HC3.out)
          go_wp2_with fail
          refine HSET.out.mono ?_
          rintro e w5 ⟨rfl, hs5, hb5, hg5, hc5⟩
          have HS5 := Lib.hid hs5
          have HB5 := Lib.hid hb5
          have HG5 := Lib.hid hg5
          have HC5 := Lib.hid hc5
          clear hs5 hb5 hg5 hc5 d2 d2q
          go_wp2_with fail
          go_roundg c
          case measure => omega
          case rel =>
            have hbl : Bsm.bit ws l = false := by
              have h1 := HBIT.out l
              rw [HX.out] at h1
              cases hh : Bsm.bit ws l with
              | false => rfl
              | true => rw [hh] at h1; simp at h1
            refine ⟨i + 1, Bsm.orw ws' l, ?_, by go_num, by omega, HS5.out, by unfold Bsm.orw; rw [Bsm.upd_len]; exact HWN.out, fun j => ?_, (HK3.out.drewN nq).grown HG5.out (fun e => HFG.out (by simpa using e)), ?_, (HH3.out.drewN nq).grown HG5.out (fun e => ?_), (below_drewN (HBEL.out.trans (HB3.out.mono ?_)) nq).trans HB5.out, ?_⟩
            · rw [HTS.out, hbl, Bool.and_false]
            · rw [Bsm.bit_orw _ _ (by rw [HWN.out]; have := HLM.out; have := HLW.out; omega) j, HBIT.out j, hits_succ, HLL.out, Bool.or_assoc]
            · rw [← HWN.out]; exact HC5.out
            · have e2 : g = w2.heap.size := by simpa using e
              have := HGS.out.1
              have := HZ2.out
              omega
            · have := HGS.out.2.2
              have := HSZ.out
              omega
            · have h1 := HG5.out.size
              have h2 := HSZ.out
              have h3 := HB3.out.size
              have h4 : (w3.drewN nq).heap.size = w3.heap.size := rfl
              omega
        | true =>
          go_wp2_with fail
          refine HT1.out.mono ?_
          rintro e w4 ⟨rfl, nq, rfl⟩
          go_wp2_with fail
          go_roundg c
          case measure => omega
          case rel =>
            have hor : (Bsm.bit ws l || hits L m i l) = true := by rw [← HBIT.out l]; exact HX.out
            refine ⟨i + 1, ws', ?_, by go_num, by omega, HS3.out.drewN nq, HWN.out, fun j => ?_, HK3.out.drewN nq, by rw [← HWN.out]; exact HC3.out, HH3.out.drewN nq, below_drewN (HBEL.out.trans (HB3.out.mono ?_)) nq, ?_⟩
            · rw [HTS.out, tora_same L m i ws l (by rw [hor]), HTT.out]
            · rw [HBIT.out j, hits_succ, HLL.out]
              by_cases hj : j = l
              · subst hj; simp [hor]
              · simp [hj]
            · have := HGS.out.2.2
              have := HSZ.out
              omega
            · have h2 := HSZ.out
              have h3 := HB3.out.size
              have h4 : (w3.drewN nq).heap.size = w3.heap.size := rfl
              omega
    · obtain rfl : i = k := by omega
      have hd : decide ((i : Int) < (i : Int)) = false := by simp
      go_wp2_with fail
      go_ret
      refine ⟨rfl, ws', ⟨HF1.out, HBLK.out, HBS.out, HF4.out, fun g' hg' => ?_⟩, by rw [HWN.out, HN.out], HBIT.out, HBEL.out, HSZ.out⟩
      have h := HCP.out.symm.trans hg'
      rw [HWN.out] at h
      have e : g = g' := by simpa using h
      rw [← e]
      exact HFG.out
end Go.Proofs.Ytbcbkieebelleaa
