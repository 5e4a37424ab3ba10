/- Walks of (*BloomFilter).Copy, impl.BLCopy and impl.BLApart. -/
import Derived.Test.YtbcbkieebelleaaBlMerge
import Derived.Test.YtbcbkieebelleaaBlAdd
import Derived.Test.YtbcbkieebelleaaBlClear
import Derived.Test.YtbcbkieebelleaaBlTestImpl
import Derived.Outline
import Derived.Deep.RegionHeld3
namespace Go.Proofs.Ytbcbkieebelleaa
set_option linter.unusedVariables false
open Go.RowKit

/-- what Copy does: a new filter with the same bits -/
def CopyIs (m k : Nat) (ws : List Nat) (w : World) (e : Ending) (w' : World) : Prop :=
  ∃ (f2 p2 : Nat) (ws' : List Nat) (cap' L : Nat), e = .returned (.pointer (some ⟨f2, 0, none⟩)) ∧ (m ≤ L ∧ L ≤ 64 * ws.length) ∧ Bf w.heap.size w' f2 p2 m k L ws' cap' ∧ ws'.length = ws.length ∧ (∀ j, Bsm.bit ws' j = Bsm.bit ws j) ∧ Below w.heap.size w w'

theorem bit_zeros (n j : Nat) : Bsm.bit (List.replicate n 0) j = false := by
  unfold Bsm.bit
  have h : (List.replicate n 0).getD (j / 64) 0 = 0 := by
    rw [List.getD_eq_getElem?_getD, List.getElem?_replicate]
    split <;> rfl
  rw [h]
  simp

set_option maxRecDepth 100000 in
set_option maxHeartbeats 2000000 in
theorem flcopy_any (B f p m k : Nat) (ws : List Nat) (cap : Nat) (w : World) (hb : Bf B w f p m k (64 * ws.length) ws cap) (hm : 1 ≤ m) (hk : 1 ≤ k) (hk9 : k ≤ 1000) (hn : (m + 63) / 64 = ws.length) (h9 : ws.length ≤ 100) :
    Calls Try.prog 55 #[.pointer (some ⟨f, 0, none⟩)] w (CopyIs m k ws w) := by
  have c0 : w.drew.cell? ⟨f, 0, none⟩ = some (.int .u64 (m : Int)) := hb.2.1.cell 0 rfl
  have c1 : w.drew.cell? ⟨f, 1, none⟩ = some (.int .u64 (k : Int)) := hb.2.1.cell 1 rfl
  have hm9 : m ≤ 6400 := by omega
  have HN := Lib.hid hn
  have HNEW := Lib.hid (flnew_any m k w.drew (by omega) (by omega))
  have HB : Hid (Bf B w.drew f p m k (64 * ws.length) ws cap) := Lib.hid (hb.below (Below.refl _ _).drew)
  have HM : Hid (max 1 m = m ∧ max 1 k = k) := Lib.hid ⟨by omega, by omega⟩
  have HLT : Hid (f < w.drew.heap.size) := Lib.hid hb.2.1.lt
  clear hb hn
  go_enter Try.func55, Try.ntmps55
  go_wp2_with fail
  go_region_held3 (fun w' => w'.cell? ⟨f, 0, none⟩ = some (.int .u64 (m : Int)) ∧ w'.cell? ⟨f, 1, none⟩ = some (.int .u64 (k : Int)))
    ((first | go_keep | exact ⟨by assumption, by assumption⟩))
    ((go_at_call 44; (with_reducible refine Calls.mono HNEW.out ?_); rintro e w1 ⟨f2, p2, rfl, hbf, hb1⟩; have c0 := (hb1.cell (p := ⟨f, 0, none⟩) HLT.out).trans c0; have c1 := (hb1.cell (p := ⟨f, 1, none⟩) HLT.out).trans c1; have HBF := Lib.hid hbf; have HB1 := Lib.hid hb1; clear hbf hb1))
  all_goals
    have hbf := HBF.out
    rw [HM.out.1, HM.out.2, HN.out] at hbf
    have hb2 := HB.out.below HB1.out
    obtain ⟨g0, q1, q2, q3, q4, q5⟩ := hbf.2.2.1.wordsAt
    obtain ⟨g2, r1, r2, r3, r4, r5⟩ := hb2.2.2.1.wordsAt
    obtain ⟨g2', s1, s2, s3, s4, s5⟩ := HB.out.2.2.1.wordsAt
    have hgg : g2' = g2 := by
      have h := ((HB1.out.cell (p := ⟨p, 1, none⟩) s5).trans s1).symm.trans r1
      simpa using h
    have hsz := HB1.out.size
    have HMG := Lib.hid (merge_any w.drew.heap.size B f2 f p2 p g0 g2 m k m (64 * ws.length) ws.length (List.replicate ws.length 0) ws ws.length cap w1 hbf hb2 (by omega) (by omega) (by have := HN.out; omega) HN.out (by simp) (by omega) rfl hsz (fun _ => by simp) (by simpa using q1) r1 (by omega) (by omega) (by omega) (by omega))
    have HSZ := Lib.hid hsz
    clear hbf hb2 q1 q2 q3 q4 q5 r1 r2 r3 r4 r5 s1 s2 s3 s4 s5 hgg hsz
    go_wp2_with fail
    refine HMG.out.mono ?_
    rintro e w3 ⟨rfl, ws', cap', L', j0, j1, j2, j3, j4, j5⟩
    have HJ0 := Lib.hid j0
    have HJ1 := Lib.hid j1
    have HJ2 := Lib.hid j2
    have HJ3 := Lib.hid j3
    have HJ4 := Lib.hid j4
    clear j0 j1 j2 j3 j4 j5
    go_wp2_with fail
    go_ret
    refine ⟨f2, p2, ws', cap', L', rfl, ⟨HJ0.out.1, HJ0.out.2⟩, HJ1.out, HJ2.out, fun j => ?_, ?_⟩
    · rw [HJ3.out, bit_zeros, Bool.false_or]
    · exact (Below.refl w.heap.size w).drew.trans (HB1.out.trans HJ4.out)

set_option maxRecDepth 100000 in
set_option maxHeartbeats 4000000 in
theorem blcopy_any (m k : Nat) (ws : List Nat) (v : Value) (w : World)
    (hv : Fil w v m k ws) (h0 : 0 < ws.length) (hm : 1 ≤ m) (hk : 1 ≤ k) (hk9 : k ≤ 1000) (hn : (m + 63) / 64 = ws.length) (h9 : ws.length ≤ 100) :
    Calls Try.prog 36 #[v] w fun e w' => ∃ v' ws', e = .returned v' ∧ OwnFil w.heap.size w' v' m k ws' ∧ ws'.length = ws.length ∧ (∀ j, Bsm.bit ws' j = Bsm.bit ws j) ∧ Below w.heap.size w w' := by
  have hv0 := hv
  obtain ⟨fa, fn, fc, rfl, _⟩ := hv0
  obtain ⟨W, hW⟩ : ∃ W, W = (w.alloc (.cells #[.int .u64 (m : Int), .int .u64 (k : Int), .slice fa fn fc] 39)).alloc (.cells #[.int .u64 0, .int .u64 0, .slice none 0 0] 39) := ⟨_, rfl⟩
  have hb0 : Below w.heap.size w W := by rw [hW]; exact ((Below.refl _ _).alloc (Nat.le_refl _) _).alloc (by simp) _
  have hz0 : W.heap.size = w.heap.size + 2 := by rw [hW]; simp
  have kZ : Blk W (w.heap.size + 1) 39 #[.int .u64 0, .int .u64 0, .slice none 0 0] := by
    have h := Blk.new (w.alloc (.cells #[.int .u64 (m : Int), .int .u64 (k : Int), .slice fa fn fc] 39)) 39 #[.int .u64 0, .int .u64 0, .slice none 0 0]
    rw [← hW] at h
    simpa using h
  have HV := Lib.hid (hv.below rfl hb0)
  have HB0 := Lib.hid hb0
  have HZ0 := Lib.hid hz0
  have HKZ := Lib.hid kZ
  have HN := Lib.hid hn
  clear hv hb0 hz0 kZ hn
  subst hW
  go_enter Try.func36, Try.ntmps36
  go_wp2_with fail
  refine (filter_any _ m k ws _ HV.out h0 (by omega)).mono ?_
  rintro e w1 ⟨f, p, cap, rfl, hbf, hb1⟩
  have HBF := Lib.hid hbf
  have HB1 := Lib.hid hb1
  clear hbf hb1
  go_wp2_with fail
  refine (flcopy_any _ f p m k ws cap w1 HBF.out hm hk hk9 HN.out h9).mono ?_
  rintro e w2 ⟨f2, p2, ws', cap2, L2, rfl, hlim, hbf2, hl2, hbit, hb2⟩
  have HBF2 := Lib.hid hbf2
  have HL2 := Lib.hid hl2
  have HBIT := Lib.hid hbit
  have kz1 := HKZ.out.below HB1.out (by have := HZ0.out; omega)
  have kz2 := kz1.below hb2 kz1.lt
  have HK2 := Lib.hid kz2
  have HB2 : Hid (Below w.heap.size w w2) := Lib.hid ((HB0.out.trans (HB1.out.mono HB0.out.size)).trans (hb2.mono (by have := HZ0.out; have := HB1.out.size; omega)))
  clear hbf2 hl2 hbit hb2 kz1 kz2 hlim
  go_wp2_with fail
  refine (told_any _ f2 p2 m k _ ws' cap2 w2 HBF2.out (by rw [HL2.out]; omega)).mono ?_
  rintro e w3 ⟨v3, rfl, hof, hb3⟩
  have HOF := Lib.hid hof
  obtain ⟨a4, n4, c4, rfl, _⟩ := hof
  have kz3 := HK2.out.below hb3 HK2.out.lt
  have q0 : w3.cell? ⟨w.heap.size + 1, 0, none⟩ = some (.int .u64 0) := kz3.cell 0 rfl
  have q1 : w3.cell? ⟨w.heap.size + 1, 1, none⟩ = some (.int .u64 0) := kz3.cell 1 rfl
  have q2 : w3.cell? ⟨w.heap.size + 1, 2, none⟩ = some (.slice none 0 0) := kz3.cell 2 rfl
  have y0 := kz3.free 0
  have y1 := kz3.free 1
  have y2 := kz3.free 2
  have n0 := kz3.lt
  have HB3 : Hid (Below w.heap.size w w3) := Lib.hid (HB2.out.trans (hb3.mono HB2.out.size))
  have HLT : Hid (w.heap.size + 1 < w2.heap.size) := Lib.hid HK2.out.lt
  clear hb3 kz3
  go_wp2_with fail
  refine bodyPost_ret (v := .agg #[.int .u64 (m : Int), .int .u64 (k : Int), .slice a4 n4 c4]) (by simp [results, Try.results36, go_sem, *]) rfl ?_
  have hlt := HLT.out
  exact ⟨_, ws', rfl, (((HOF.out.set (by simp only []; omega) _).set (by simp only []; omega) _).set (by simp only []; omega) _).weaken (by omega), HL2.out, HBIT.out, ((HB3.out.setCell (by simp only []; omega) _).setCell (by simp only []; omega) _).setCell (by simp only []; omega) _⟩

/-- what BLApart does -/
def ApartIs (L : Nat → Nat) (m k : Nat) (ws : List Nat) (w : World) (e : Ending) (w' : World) : Prop :=
  ∃ (v1 v2 : Value) (ws1 : List Nat), e = .returned (.tuple #[v1, v2]) ∧ OwnFil w.heap.size w' v1 m k ws1 ∧ OwnFil w.heap.size w' v2 m k ws ∧ ws1.length = ws.length ∧ (∀ j, Bsm.bit ws1 j = (Bsm.bit ws j || hits L m k j)) ∧ Below w.heap.size w w'

set_option maxRecDepth 100000 in
set_option maxHeartbeats 4000000 in
theorem blapart_any (bs : List Int) (r1 r2 r3 r4 : Int) (L : Nat → Nat) (hL : LocIs r1 r2 r3 r4 L) (hbase : BaseIs bs r1 r2 r3 r4) (m k : Nat) (ws : List Nat) (v : Value) (a : Option Addr) (dn dc : Nat) (w : World)
    (hv : Fil w v m k ws) (hd : Bt w a dn dc bs) (h0 : 0 < ws.length) (hm : 1 ≤ m) (hk : 1 ≤ k) (hk9 : k ≤ 1000) (hn : (m + 63) / 64 = ws.length) (h9 : ws.length ≤ 100) :
    Calls Try.prog 35 #[v, .slice a dn dc] w (ApartIs L m k ws w) := by
  have hv0 := hv
  obtain ⟨fa, fn, fc, rfl, _⟩ := hv0
  obtain ⟨W, hW⟩ : ∃ W, W = ((w.alloc (.cells #[.int .u64 (m : Int), .int .u64 (k : Int), .slice fa fn fc] 39)).alloc (.cells #[.int .u64 0, .int .u64 0, .slice none 0 0] 39)).alloc (.cells #[.int .u64 0, .int .u64 0, .slice none 0 0] 39) := ⟨_, rfl⟩
  have hb0 : Below w.heap.size w W := by rw [hW]; exact (((Below.refl _ _).alloc (Nat.le_refl _) _).alloc (by simp) _).alloc (by simp; omega) _
  have hz0 : W.heap.size = w.heap.size + 3 := by rw [hW]; simp
  have kY : Blk W (w.heap.size + 1) 39 #[.int .u64 0, .int .u64 0, .slice none 0 0] := by
    have h := (Blk.new (w.alloc (.cells #[.int .u64 (m : Int), .int .u64 (k : Int), .slice fa fn fc] 39)) 39 #[.int .u64 0, .int .u64 0, .slice none 0 0]).alloc (.cells #[.int .u64 0, .int .u64 0, .slice none 0 0] 39)
    rw [← hW] at h
    simpa using h
  have kZ : Blk W (w.heap.size + 2) 39 #[.int .u64 0, .int .u64 0, .slice none 0 0] := by
    have h := Blk.new ((w.alloc (.cells #[.int .u64 (m : Int), .int .u64 (k : Int), .slice fa fn fc] 39)).alloc (.cells #[.int .u64 0, .int .u64 0, .slice none 0 0] 39)) 39 #[.int .u64 0, .int .u64 0, .slice none 0 0]
    rw [← hW] at h
    simpa using h
  have HV := Lib.hid (hv.below rfl hb0)
  have HB0 := Lib.hid hb0
  have HZ0 := Lib.hid hz0
  have HKY := Lib.hid kY
  have HKZ := Lib.hid kZ
  have HD := Lib.hid (hd.below hb0)
  have HL := Lib.hid hL
  have HBASE := Lib.hid hbase
  have HN := Lib.hid hn
  clear hv hb0 hz0 kY kZ hn hd hL hbase
  subst hW
  go_enter Try.func35, Try.ntmps35
  go_wp2_with fail
  refine (filter_any _ m k ws _ HV.out h0 (by omega)).mono ?_
  rintro e w1 ⟨f, p, cap, rfl, hbf, hb1⟩
  have HBF := Lib.hid hbf
  have HB1 := Lib.hid hb1
  clear hbf hb1
  go_wp2_with fail
  refine (flcopy_any _ f p m k ws cap w1 HBF.out hm hk hk9 HN.out h9).mono ?_
  rintro e w2 ⟨f2, p2, ws', cap2, L2, rfl, hlim, hbf2, hl2, hbit, hb2⟩
  have HLIM := Lib.hid hlim
  have HBF2 := Lib.hid hbf2
  have HL2 := Lib.hid hl2
  have HBIT := Lib.hid hbit
  have HB2 := Lib.hid hb2
  have HD2 := Lib.hid ((HD.out.below HB1.out).below hb2)
  clear hbf2 hl2 hbit hb2 hlim
  go_wp2_with fail
  refine (add_any bs r1 r2 r3 r4 L HL.out HBASE.out _ f2 p2 m k L2 ws' cap2 a dn dc w2 HBF2.out HD2.out (by omega) HLIM.out.1 (by rw [HL2.out]; exact HLIM.out.2) (by have := HLIM.out.2; omega) (by omega)).mono ?_
  rintro e w3 ⟨rfl, ws3, hbf3, hl3, hbit3, hb3, hs3⟩
  have HBF3 := Lib.hid hbf3
  have HL3 := Lib.hid hl3
  have HBIT3 := Lib.hid hbit3
  have hb13 : Below w1.heap.size w1 w3 := HB2.out.trans hb3
  have HBX := Lib.hid (HBF.out.below hb13)
  have ky1 := HKY.out.below HB1.out (by have := HZ0.out; omega)
  have kz1 := HKZ.out.below HB1.out (by have := HZ0.out; omega)
  have HKY3 := Lib.hid (ky1.below hb13 ky1.lt)
  have HKZ3 := Lib.hid (kz1.below hb13 kz1.lt)
  have HT3 : Hid (Below w.heap.size w w3) := Lib.hid ((HB0.out.trans (HB1.out.mono HB0.out.size)).trans (hb13.mono (by have := HZ0.out; have := HB1.out.size; omega)))
  clear hbf3 hl3 hbit3 hb3 hs3 hb13 ky1 kz1
  go_wp2_with fail
  refine (told_any _ f2 p2 m k _ ws3 cap2 w3 HBF3.out (by rw [HL3.out, HL2.out]; omega)).mono ?_
  rintro e w4 ⟨v4, rfl, hof, hb4⟩
  have HOF := Lib.hid hof
  have HB4 := Lib.hid hb4
  have HBX4 := Lib.hid (HBX.out.below hb4)
  clear hof hb4
  go_wp2_with fail
  refine (told_any _ f p m k _ ws cap w4 HBX4.out (by omega)).mono ?_
  rintro e w5 ⟨v5, rfl, hof5, hb5⟩
  have HOF4 := Lib.hid (HOF.out.below hb5)
  have HOF5 := Lib.hid hof5
  obtain ⟨a4, n4, c4, rfl, _⟩ := HOF.out
  obtain ⟨a5, n5, c5, rfl, _⟩ := hof5
  have ky5 := (HKY3.out.below HB4.out HKY3.out.lt).below hb5 (HKY3.out.below HB4.out HKY3.out.lt).lt
  have kz5 := (HKZ3.out.below HB4.out HKZ3.out.lt).below hb5 (HKZ3.out.below HB4.out HKZ3.out.lt).lt
  have p0 : w5.cell? ⟨w.heap.size + 1, 0, none⟩ = some (.int .u64 0) := ky5.cell 0 rfl
  have p1 : w5.cell? ⟨w.heap.size + 1, 1, none⟩ = some (.int .u64 0) := ky5.cell 1 rfl
  have p2 : w5.cell? ⟨w.heap.size + 1, 2, none⟩ = some (.slice none 0 0) := ky5.cell 2 rfl
  have x0 := ky5.free 0
  have x1 := ky5.free 1
  have x2 := ky5.free 2
  have q0 : w5.cell? ⟨w.heap.size + 2, 0, none⟩ = some (.int .u64 0) := kz5.cell 0 rfl
  have q1 : w5.cell? ⟨w.heap.size + 2, 1, none⟩ = some (.int .u64 0) := kz5.cell 1 rfl
  have q2 : w5.cell? ⟨w.heap.size + 2, 2, none⟩ = some (.slice none 0 0) := kz5.cell 2 rfl
  have y0 := kz5.free 0
  have y1 := kz5.free 1
  have y2 := kz5.free 2
  have m0 := ky5.lt
  have n0 := kz5.lt
  have HT5 : Hid (Below w.heap.size w w5) := Lib.hid ((HT3.out.trans (HB4.out.mono HT3.out.size)).trans (hb5.mono (by have := HT3.out.size; have := HB4.out.size; omega)))
  have HLT : Hid (w.heap.size + 2 < w3.heap.size ∧ w3.heap.size ≤ w4.heap.size) := Lib.hid ⟨HKZ3.out.lt, HB4.out.size⟩
  clear hb5 ky5 kz5
  go_wp2_with fail
  refine bodyPost_ret (v := .tuple #[.agg #[.int .u64 (m : Int), .int .u64 (k : Int), .slice a4 n4 c4], .agg #[.int .u64 (m : Int), .int .u64 (k : Int), .slice a5 n5 c5]]) (by simp [results, Try.results35, go_sem, *]) rfl ?_
  have hlt := HLT.out
  refine ⟨_, _, ws3, rfl, ?_, ?_, by rw [HL3.out, HL2.out], fun j => by rw [HBIT3.out, HBIT.out], ?_⟩
  · exact ((((((HOF4.out.set (by simp only []; omega) _).set (by simp only []; omega) _).set (by simp only []; omega) _).set (by simp only []; omega) _).set (by simp only []; omega) _).set (by simp only []; omega) _).weaken (by omega)
  · exact ((((((HOF5.out.set (by simp only []; omega) _).set (by simp only []; omega) _).set (by simp only []; omega) _).set (by simp only []; omega) _).set (by simp only []; omega) _).set (by simp only []; omega) _).weaken (by omega)
  · exact (((((HT5.out.setCell (by simp only []; omega) _).setCell (by simp only []; omega) _).setCell (by simp only []; omega) _).setCell (by simp only []; omega) _).setCell (by simp only []; omega) _).setCell (by simp only []; omega) _
end Go.Proofs.Ytbcbkieebelleaa
