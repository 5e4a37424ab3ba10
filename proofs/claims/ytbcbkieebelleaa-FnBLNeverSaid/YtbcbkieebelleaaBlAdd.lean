/- Walks of (*BloomFilter).location, Add and Test. -/
import Derived.Test.YtbcbkieebelleaaBlBytes
import Derived.Test.YtbcbkieebelleaaBlFilter
import Derived.Outline
import Derived.Deep.DeepFit
import Derived.Deep.RegionHeld3
namespace Go.Proofs.Ytbcbkieebelleaa
set_option linter.unusedVariables false
open Go.RowKit

set_option maxRecDepth 100000 in
set_option maxHeartbeats 2000000 in
theorem flloc_any (r1 r2 r3 r4 : Int) (L : Nat → Nat) (hL : LocIs r1 r2 r3 r4 L) (f m i l : Nat) (w : World) (hc : w.cell? ⟨f, 0, none⟩ = some (.int .u64 (m : Int))) (hm : 0 < m) (hm2 : m ≤ 100000) (hi : i ≤ 100000) (hl : L i % m = l) :
    Calls Try.prog 72 #[.pointer (some ⟨f, 0, none⟩), .agg #[.int .u64 r1, .int .u64 r2, .int .u64 r3, .int .u64 r4], .int .u64 (i : Int)] w fun e w' => e = .returned (.int .u64 (l : Int)) ∧ Below w.heap.size w w' := by
  have hf : f < w.heap.size := World.block_lt_of_cell? w ⟨f, 0, none⟩ hc
  have hb0 : Below w.heap.size w (w.alloc (.cells #[.int .u64 r1, .int .u64 r2, .int .u64 r3, .int .u64 r4] 102)).drew := ((Below.refl _ _).alloc (Nat.le_refl _) _).drew
  have hsz : ((w.alloc (.cells #[.int .u64 r1, .int .u64 r2, .int .u64 r3, .int .u64 r4] 102)).drew).heap.size = w.heap.size + 1 := by show (w.alloc _).heap.size = _; simp
  have bk := (Blk.new w 102 #[.int .u64 r1, .int .u64 r2, .int .u64 r3, .int .u64 r4]).drew
  have c0 : ((w.alloc (.cells #[.int .u64 r1, .int .u64 r2, .int .u64 r3, .int .u64 r4] 102)).drew).cell? ⟨w.heap.size, 0, none⟩ = some (.int .u64 r1) := bk.cell 0 rfl
  have c1 : ((w.alloc (.cells #[.int .u64 r1, .int .u64 r2, .int .u64 r3, .int .u64 r4] 102)).drew).cell? ⟨w.heap.size, 1, none⟩ = some (.int .u64 r2) := bk.cell 1 rfl
  have c2 : ((w.alloc (.cells #[.int .u64 r1, .int .u64 r2, .int .u64 r3, .int .u64 r4] 102)).drew).cell? ⟨w.heap.size, 2, none⟩ = some (.int .u64 r3) := bk.cell 2 rfl
  have c3 : ((w.alloc (.cells #[.int .u64 r1, .int .u64 r2, .int .u64 r3, .int .u64 r4] 102)).drew).cell? ⟨w.heap.size, 3, none⟩ = some (.int .u64 r4) := bk.cell 3 rfl
  have cm : ((w.alloc (.cells #[.int .u64 r1, .int .u64 r2, .int .u64 r3, .int .u64 r4] 102)).drew).cell? ⟨f, 0, none⟩ = some (.int .u64 (m : Int)) := (hb0.cell (p := ⟨f, 0, none⟩) hf).trans hc
  have hmod : ((L i : Nat) : Int).tmod (m : Int) = (l : Int) := by rw [Int.tmod_eq_emod_of_nonneg (by omega)]; omega
  have hm0 : ((m : Int) == 0) = false := by simp; omega
  have hmn : ¬ (m : Int) = 0 := by omega
  have hmz : ¬ m = 0 := by omega
  have HC := Lib.hid ((hL i hi).2 (w.alloc (.cells #[.int .u64 r1, .int .u64 r2, .int .u64 r3, .int .u64 r4] 102)).drew)
  have HB0 := Lib.hid hb0
  have HCM := Lib.hid cm
  have HBX := Lib.hid bk
  have HSZ := Lib.hid hsz
  have HF := Lib.hid hf
  obtain ⟨Z, hZ⟩ : ∃ Z : Nat, L i = Z := ⟨_, rfl⟩
  rw [hZ] at HC hmod
  clear hc hm hm2 hi hl bk hb0 hsz hf hL hZ
  go_enter Try.func72, Try.ntmps72
  go_wp2_with fail
  go_region_held3 (fun w' => w'.cell? ⟨f, 0, none⟩ = some (.int .u64 (m : Int)) ∧ w'.cell? ⟨w.heap.size, 0, none⟩ = some (.int .u64 r1) ∧ w'.cell? ⟨w.heap.size, 1, none⟩ = some (.int .u64 r2) ∧ w'.cell? ⟨w.heap.size, 2, none⟩ = some (.int .u64 r3) ∧ w'.cell? ⟨w.heap.size, 3, none⟩ = some (.int .u64 r4))
    ((first | go_keep | exact ⟨by assumption, by assumption, by assumption, by assumption, by assumption⟩))
    ((go_at_call 71; (with_reducible refine Calls.mono HC.out ?_); rintro e w1 ⟨rfl, hb1⟩; have HT := Lib.hid (HB0.out.trans (hb1.mono (by have := HSZ.out; omega))); have t0 := (hb1.cell (p := ⟨f, 0, none⟩) (by have := HSZ.out; have := HF.out; simp only []; omega)).trans HCM.out; have bk1 := HBX.out.below hb1 (by have := HSZ.out; omega); have t1 : w1.cell? ⟨w.heap.size, 0, none⟩ = some (.int .u64 r1) := bk1.cell 0 rfl; have t2 : w1.cell? ⟨w.heap.size, 1, none⟩ = some (.int .u64 r2) := bk1.cell 1 rfl; have t3 : w1.cell? ⟨w.heap.size, 2, none⟩ = some (.int .u64 r3) := bk1.cell 2 rfl; have t4 : w1.cell? ⟨w.heap.size, 3, none⟩ = some (.int .u64 r4) := bk1.cell 3 rfl; clear hb1 bk1))
  all_goals
    go_wp2_with fail
    go_ret
    exact ⟨rfl, HT.out⟩
set_option maxRecDepth 100000 in
set_option maxHeartbeats 400000 in
theorem set_far (B : Nat) (p L i : Nat) (ws : List Nat) (cap : Nat) (w : World) (hb : Bs B w p L ws cap) (hi : i < L) (hL : L ≤ 64 * ws.length) (hl : L ≤ 100000) (g0 : Nat) (hg0 : w.cell? ⟨p, 1, none⟩ = some (.slice (some ⟨g0, 0, none⟩) ws.length cap)) :
    Calls Try.prog 57 #[.pointer (some ⟨p, 0, none⟩), .int .u64 (i : Int)] w fun e w' => e = .returned (.pointer (some ⟨p, 0, none⟩)) ∧ Bs B w' p L (Bsm.orw ws i) cap ∧ Below B w w' ∧ w.grownBy w' (some g0) ∧ w'.cell? ⟨p, 1, none⟩ = some (.slice (some ⟨g0, 0, none⟩) ws.length cap) := by
  obtain ⟨g, h1, h2, h3, h4, h5⟩ := hb
  have c0 : w.cell? ⟨p, 0, none⟩ = some (.int .u64 (L : Int)) := h3.cell 0 rfl
  have c1 : w.cell? ⟨p, 1, none⟩ = some (.slice (some ⟨g, 0, none⟩) ws.length cap) := h3.cell 1 rfl
  have hgg : g = g0 := by
    have h := c1.symm.trans hg0
    simpa using h
  subst hgg
  clear hg0
  have hpg : p ≠ g := Ne.symm h2
  have HP3 := Lib.hid h3
  have HPG := Lib.hid hpg
  obtain ⟨q, hq⟩ : ∃ q, i / 64 = q := ⟨_, rfl⟩
  have hq2 : q < ws.length := by omega
  have hq3 : (i : Int) / 64 = (q : Int) := by omega
  have c2 := h4.cellAt q (by omega)
  rw [u64s_at ws q hq2] at c2
  have f2 := h4.frozenAt q
  have hil : i < 100000 := by omega
  have hX : ws.getD q 0 < 18446744073709551616 := h5 _ (by simp [hq2])
  have hst := Bs.store h1 h2 h3 h4 h5 q (ws.getD q 0 ||| 2 ^ (i % 64)) (or_lt _ i hX)
  have e1 : Bsm.orw ws i = ws.set q (ws.getD q 0 ||| 2 ^ (i % 64)) := by unfold Bsm.orw Bsm.upd; rw [hq]
  rw [← e1] at hst
  obtain ⟨X, hXX⟩ : ∃ X, ws.getD q 0 = X := ⟨_, rfl⟩
  rw [hXX] at c2 hX hst
  have HW := Lib.hid (or_word X i hX)
  have HST := Lib.hid hst
  clear hpg hq h1 h2 h3 h4 h5 hX hst e1 hXX
  go_enter Try.func57, Try.ntmps57
  go_wp2_with fail
  refine wp_region_still_tail 13 (by kernel_rfl) (by kernel_rfl) ?_
  simp only [List.take_succ_cons, List.take_zero, List.drop_succ_cons, List.drop_zero]
  repeat still_step
  still_call (windex_still i _ (by omega))
  repeat still_step
  refine wpStill_nil ?_
  change wpList _ _ _ _ _ w.drew
  go_wp2_with fail
  go_ret
  refine ⟨rfl, ?_⟩
  rw [HW.out]
  exact ⟨HST.out.1.drewN 1, HST.out.2.drew, only_drew (only_setCell (p := ⟨g, q, none⟩) (only_refl w (some g)) (.inl rfl) _), ((HP3.out.other (a := ⟨g, q, none⟩) HPG.out _).drew).cell 1 rfl⟩

/-- is place j one of the first k locations, modulo m? -/
def hits (L : Nat → Nat) (m k j : Nat) : Bool := (List.range k).any fun i => L i % m == j
theorem hits_succ (L : Nat → Nat) (m k j : Nat) : hits L m (k + 1) j = (hits L m k j || decide (j = L k % m)) := by
  unfold hits
  rw [List.range_succ, List.any_append]
  simp only [List.any_cons, List.any_nil, Bool.or_false]
  congr 1
  by_cases h : j = L k % m
  · subst h; simp
  · have h2 : ¬ L k % m = j := fun e => h e.symm
    simp [h, h2]

def AddLoop (r1 r2 r3 r4 : Int) (L : Nat → Nat) (B f p m k Lb g n : Nat) (ws : List Nat) (cap hb : Nat) (w : World) (c : Nat) (iv : Value) (wr : World) : Prop :=
  ∃ (i : Nat) (ws' : List Nat), iv = .int .u64 (i : Int) ∧ i + c = k ∧ Bs B wr p Lb ws' cap ∧ ws'.length = n ∧ (∀ j, Bsm.bit ws' j = (Bsm.bit ws j || hits L m i j)) ∧
    Blk wr f 99 #[.int .u64 (m : Int), .int .u64 (k : Int), .pointer (some ⟨p, 0, none⟩)] ∧ wr.cell? ⟨p, 1, none⟩ = some (.slice (some ⟨g, 0, none⟩) n cap) ∧
    Blk wr hb 102 #[.int .u64 r1, .int .u64 r2, .int .u64 r3, .int .u64 r4] ∧ Below B w wr ∧ w.heap.size ≤ wr.heap.size ∧ w.grownBy wr (some g)

theorem only_trans {a w w1 : World} {row : Option Nat} (h : a.grownBy w row) (h2 : w.grownBy w1 row) : a.grownBy w1 row :=
  ⟨h2.os.trans h.os, h2.tape.trans h.tape, h2.output.trans h.output, Nat.le_trans h.size h2.size, fun k hk hne => (h2.block k (Nat.lt_of_lt_of_le hk h.size) hne).trans (h.block k hk hne)⟩

set_option maxRecDepth 100000 in
set_option maxHeartbeats 4000000 in
theorem add_far (bs : List Int) (r1 r2 r3 r4 : Int) (L : Nat → Nat) (hL : LocIs r1 r2 r3 r4 L) (hbase : BaseIs bs r1 r2 r3 r4) (B f p m k Lb : Nat) (ws : List Nat) (cap : Nat) (a : Option Addr) (dn dc : Nat) (w : World)
    (hb : Bf B w f p m k Lb ws cap) (hd : Bt w a dn dc bs) (hm : 0 < m) (hmL : m ≤ Lb) (hLw : Lb ≤ 64 * ws.length) (hL5 : Lb ≤ 100000) (hk : k ≤ 100000) (g0 : Nat) (hgg0 : w.cell? ⟨p, 1, none⟩ = some (.slice (some ⟨g0, 0, none⟩) ws.length cap)) :
    Calls Try.prog 52 #[.pointer (some ⟨f, 0, none⟩), .slice a dn dc] w fun e w' => e = .returned (.pointer (some ⟨f, 0, none⟩)) ∧
      ∃ ws', Bf B w' f p m k Lb ws' cap ∧ ws'.length = ws.length ∧ (∀ j, Bsm.bit ws' j = (Bsm.bit ws j || hits L m k j)) ∧ Below B w w' ∧ w.heap.size ≤ w'.heap.size ∧ w.grownBy w' (some g0) ∧ w'.cell? ⟨p, 1, none⟩ = some (.slice (some ⟨g0, 0, none⟩) ws.length cap) := by
  obtain ⟨hf1, hf2, hf3, hf4, hf5⟩ := hb
  obtain ⟨g, hg1, hg2, hg3, hg4, hg5⟩ := hf3.wordsAt
  have hgg : g = g0 := by
    have h := hg1.symm.trans hgg0
    simpa using h
  subst hgg
  clear hgg0
  obtain ⟨n, hn⟩ : ∃ n, ws.length = n := ⟨_, rfl⟩
  rw [hn] at hg1 hLw
  have hfg : g ≠ f := hf5 g (by rw [hn]; exact hg1)
  have HL := Lib.hid hL
  have HBC := Lib.hid (hbase dn dc a w hd.1 hd.2.1 hd.2.2.1 hd.2.2.2.1 hd.2.2.2.2)
  have HF1 := Lib.hid hf1
  have HF2 := Lib.hid hf2
  have HF3 := Lib.hid hf3
  have HF4 := Lib.hid hf4
  have HG1 := Lib.hid hg1
  have HGS := Lib.hid (show g < w.heap.size ∧ p < w.heap.size ∧ B ≤ w.heap.size from ⟨hg3, hg5, by omega⟩)
  have HFG := Lib.hid hfg
  have HN := Lib.hid hn
  have HLW := Lib.hid hLw
  clear hL hbase hd hf1 hf2 hf3 hf4 hf5 hg1 hg2 hg3 hg4 hg5 hfg hLw
  go_enter Try.func52, Try.ntmps52
  go_wp2_with fail
  refine HBC.out.mono ?_
  rintro e w2 ⟨rfl, hb2⟩
  have hbB : Below w.heap.size w (w2.alloc (.cells #[.int .u64 r1, .int .u64 r2, .int .u64 r3, .int .u64 r4] 102)) := hb2.alloc hb2.size _
  have HBB := Lib.hid hbB
  have HZ2 := Lib.hid hb2.size
  have HBK := Lib.hid (Blk.new w2 102 #[.int .u64 r1, .int .u64 r2, .int .u64 r3, .int .u64 r4])
  clear hb2 hbB
  go_wp2_with fail
  go_loopg [6] k (fun c iv wr => AddLoop r1 r2 r3 r4 L B f p m k Lb g n ws cap w2.heap.size w c iv wr)
  case atStart =>
    refine ⟨0, ws, rfl, by omega, HF3.out.below HBB.out, HN.out, fun j => by simp [hits], HF2.out.below HBB.out HF2.out.lt, ?_, HBK.out, HBB.out.mono HGS.out.2.2, HBB.out.size, only_of_below HBB.out _⟩
    exact (HBB.out.cell (p := ⟨p, 1, none⟩) HGS.out.2.1).trans HG1.out
  case round =>
    obtain ⟨i, ws', rfl, hik, hbs, hwn, hbit, hblk, hcp, hhb, hbel, hsz, hgrw⟩ := hrel
    have q1 : wr.cell? ⟨f, 1, none⟩ = some (.int .u64 (k : Int)) := hblk.cell 1 rfl
    have HBS := Lib.hid hbs
    have HWN := Lib.hid hwn
    have HBIT := Lib.hid hbit
    have HBLK := Lib.hid hblk
    have HCP := Lib.hid hcp
    have HHB := Lib.hid hhb
    have HBEL := Lib.hid hbel
    have HSZ := Lib.hid hsz
    have HGRW := Lib.hid hgrw
    clear hbs hwn hbit hblk hcp hhb hbel hsz hgrw
    by_cases hi : i < k
    · cases gk with
      | zero => omega
      | succ c =>
        obtain ⟨l, hl⟩ : ∃ l, L i % m = l := ⟨_, rfl⟩
        have hlm : l < m := by rw [← hl]; exact Nat.mod_lt _ hm
        have bkd := HBLK.out.drew
        have hhd := HHB.out.drew
        have d2 : wr.drew.cell? ⟨f, 2, none⟩ = some (.pointer (some ⟨p, 0, none⟩)) := bkd.cell 2 rfl
        have u0 : wr.drew.cell? ⟨w2.heap.size, 0, none⟩ = some (.int .u64 r1) := hhd.cell 0 rfl
        have u1 : wr.drew.cell? ⟨w2.heap.size, 1, none⟩ = some (.int .u64 r2) := hhd.cell 1 rfl
        have u2 : wr.drew.cell? ⟨w2.heap.size, 2, none⟩ = some (.int .u64 r3) := hhd.cell 2 rfl
        have u3 : wr.drew.cell? ⟨w2.heap.size, 3, none⟩ = some (.int .u64 r4) := hhd.cell 3 rfl
        have HC := Lib.hid (flloc_any r1 r2 r3 r4 L HL.out f m i l wr.drew (bkd.cell 0 rfl) hm (by omega) (by omega) hl)
        have HDS := Lib.hid (HBS.out.drewN 1)
        have HC1 : Hid (wr.drew.cell? ⟨p, 1, none⟩ = some (.slice (some ⟨g, 0, none⟩) n cap) ∧ p < wr.drew.heap.size) := Lib.hid ⟨HCP.out, Nat.lt_of_lt_of_le HGS.out.2.1 HSZ.out⟩
        have HDB := Lib.hid bkd
        have HDH := Lib.hid hhd
        have HLM := Lib.hid hlm
        have HLL := Lib.hid hl
        clear bkd hhd hlm hl
        go_wp2_with fail
        go_region_held3 (fun w' => w'.cell? ⟨f, 2, none⟩ = some (.pointer (some ⟨p, 0, none⟩)) ∧ w'.cell? ⟨w2.heap.size, 0, none⟩ = some (.int .u64 r1) ∧ w'.cell? ⟨w2.heap.size, 1, none⟩ = some (.int .u64 r2) ∧ w'.cell? ⟨w2.heap.size, 2, none⟩ = some (.int .u64 r3) ∧ w'.cell? ⟨w2.heap.size, 3, none⟩ = some (.int .u64 r4))
          ((first | go_keep | exact ⟨by assumption, by assumption, by assumption, by assumption, by assumption⟩))
          ((first
            | (go_at_call 72; (with_reducible refine Calls.mono HC.out ?_); rintro e w3 ⟨rfl, hb3⟩; have HB3 := Lib.hid hb3; have HS3 := Lib.hid (HDS.out.below hb3); have bk3 := HDB.out.below hb3 HDB.out.lt; have hh3 := HDH.out.below hb3 HDH.out.lt; have d2 : w3.cell? ⟨f, 2, none⟩ = some (.pointer (some ⟨p, 0, none⟩)) := bk3.cell 2 rfl; have u0 : w3.cell? ⟨w2.heap.size, 0, none⟩ = some (.int .u64 r1) := hh3.cell 0 rfl; have u1 : w3.cell? ⟨w2.heap.size, 1, none⟩ = some (.int .u64 r2) := hh3.cell 1 rfl; have u2 : w3.cell? ⟨w2.heap.size, 2, none⟩ = some (.int .u64 r3) := hh3.cell 2 rfl; have u3 : w3.cell? ⟨w2.heap.size, 3, none⟩ = some (.int .u64 r4) := hh3.cell 3 rfl; have HK3 := Lib.hid bk3; have HH3 := Lib.hid hh3; clear hb3 bk3 hh3)
            | (go_at_call 57; (with_reducible refine Calls.mono (set_far B p Lb l ws' cap w3 HS3.out (by have := HLM.out; omega) (by rw [HWN.out]; exact HLW.out) hL5 g (by rw [HWN.out]; exact (HB3.out.cell (p := ⟨p, 1, none⟩) HC1.out.2).trans HC1.out.1)) ?_); rintro e w4 ⟨rfl, hs4, hb4, hg4, hc4⟩; have HS4 := Lib.hid hs4; have HB4 := Lib.hid hb4; have HG4 := Lib.hid hg4; have HC4 := Lib.hid hc4; have bk4 := HK3.out.grown hg4 (fun e => HFG.out (by simpa using e)); have hh4 := HH3.out.grown hg4 (fun e => by have e2 : g = w2.heap.size := (by simpa using e); have h1 := HGS.out.1; have h2 := HZ2.out; omega); have d2 : w4.cell? ⟨f, 2, none⟩ = some (.pointer (some ⟨p, 0, none⟩)) := bk4.cell 2 rfl; have u0 : w4.cell? ⟨w2.heap.size, 0, none⟩ = some (.int .u64 r1) := hh4.cell 0 rfl; have u1 : w4.cell? ⟨w2.heap.size, 1, none⟩ = some (.int .u64 r2) := hh4.cell 1 rfl; have u2 : w4.cell? ⟨w2.heap.size, 2, none⟩ = some (.int .u64 r3) := hh4.cell 2 rfl; have u3 : w4.cell? ⟨w2.heap.size, 3, none⟩ = some (.int .u64 r4) := hh4.cell 3 rfl; clear hs4 hb4 hg4 hc4 bk4 hh4)))
        all_goals
          go_wp2_with fail
          go_roundg c
          case measure => omega
          case rel =>
            have hsz3 : wr.heap.size ≤ w3.heap.size := HB3.out.size
            refine ⟨i + 1, Bsm.orw ws' l, by go_num, by omega, HS4.out, by unfold Bsm.orw; rw [Bsm.upd_len]; exact HWN.out, fun j => ?_, HK3.out.grown HG4.out (fun e => HFG.out (by simpa using e)), ?_, HH3.out.grown HG4.out (fun e => ?_), (HBEL.out.drew.trans (HB3.out.mono ?_)).trans HB4.out, ?_, only_trans (only_below (only_drew HGRW.out) HB3.out) HG4.out⟩
            · rw [Bsm.bit_orw _ _ (by rw [HWN.out]; have := HLM.out; have := HLW.out; omega) j, HBIT.out j, hits_succ, HLL.out, Bool.or_assoc]
            · rw [← HWN.out]; exact HC4.out
            · have e2 : g = w2.heap.size := by simpa using e
              have := HGS.out.1
              have := HZ2.out
              omega
            · have := HGS.out.2.2
              have := HSZ.out
              show B ≤ wr.heap.size
              omega
            · have := HG4.out.size
              have := HSZ.out
              omega
    · obtain rfl : i = k := by omega
      have hd : decide ((i : Int) < (i : Int)) = false := by simp
      go_wp2_with fail
      go_ret
      refine ⟨rfl, ws', ⟨HF1.out, HBLK.out, HBS.out, HF4.out, fun g' hg' => ?_⟩, by rw [HWN.out, HN.out], HBIT.out, HBEL.out, HSZ.out, HGRW.out, by rw [HN.out]; exact HCP.out⟩
      have h := HCP.out.symm.trans hg'
      rw [HWN.out] at h
      have e : g = g' := by simpa using h
      rw [← e]
      exact HFG.out

set_option maxRecDepth 100000 in
theorem add_any (bs : List Int) (r1 r2 r3 r4 : Int) (L : Nat → Nat) (hL : LocIs r1 r2 r3 r4 L) (hbase : BaseIs bs r1 r2 r3 r4) (B f p m k Lb : Nat) (ws : List Nat) (cap : Nat) (a : Option Addr) (dn dc : Nat) (w : World)
    (hb : Bf B w f p m k Lb ws cap) (hd : Bt w a dn dc bs) (hm : 0 < m) (hmL : m ≤ Lb) (hLw : Lb ≤ 64 * ws.length) (hL5 : Lb ≤ 100000) (hk : k ≤ 100000) :
    Calls Try.prog 52 #[.pointer (some ⟨f, 0, none⟩), .slice a dn dc] w fun e w' => e = .returned (.pointer (some ⟨f, 0, none⟩)) ∧
      ∃ ws', Bf B w' f p m k Lb ws' cap ∧ ws'.length = ws.length ∧ (∀ j, Bsm.bit ws' j = (Bsm.bit ws j || hits L m k j)) ∧ Below B w w' ∧ w.heap.size ≤ w'.heap.size := by
  obtain ⟨g, hg, _⟩ := hb.2.2.1.wordsAt
  refine (add_far bs r1 r2 r3 r4 L hL hbase B f p m k Lb ws cap a dn dc w hb hd hm hmL hLw hL5 hk g hg).mono ?_
  rintro e w' ⟨h1, ws', h2, h3, h4, h5, h6, _, _⟩
  exact ⟨h1, ws', h2, h3, h4, h5, h6⟩
end Go.Proofs.Ytbcbkieebelleaa
