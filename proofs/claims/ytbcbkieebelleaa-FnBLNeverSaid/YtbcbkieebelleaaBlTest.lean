/- Walks of (*BloomFilter).Test and spec.BLAll. -/
import Derived.Test.YtbcbkieebelleaaBlAdd
import Derived.Outline
namespace Go.Proofs.Ytbcbkieebelleaa
set_option linter.unusedVariables false
open Go.RowKit

/-- are the places of the first k locations set? -/
def tests (L : Nat → Nat) (m k : Nat) (ws : List Nat) : Bool := (List.range k).all fun i => Bsm.bit ws (L i % m)
theorem tests_all (L : Nat → Nat) (m k : Nat) (ws : List Nat) (h : ∀ q, q < k → Bsm.bit ws (L q % m) = true) : tests L m k ws = true := by
  unfold tests
  rw [List.all_eq_true]
  intro i hi
  exact h i (List.mem_range.1 hi)
theorem tests_not (L : Nat → Nat) (m k : Nat) (ws : List Nat) (i : Nat) (hi : i < k) (h : Bsm.bit ws (L i % m) = false) : tests L m k ws = false := by
  unfold tests
  rw [List.all_eq_false]
  exact ⟨i, List.mem_range.2 hi, by simp [h]⟩

def TestLoop (r1 r2 r3 r4 : Int) (L : Nat → Nat) (m k : Nat) (ws : List Nat) (hb : Nat) (w : World) (c : Nat) (iv : Value) (wr : World) : Prop :=
  ∃ i : Nat, iv = .int .u64 (i : Int) ∧ i + c = k ∧ (∀ q, q < i → Bsm.bit ws (L q % m) = true) ∧ Blk wr hb 102 #[.int .u64 r1, .int .u64 r2, .int .u64 r3, .int .u64 r4] ∧ Below w.heap.size w wr

set_option maxRecDepth 100000 in
set_option maxHeartbeats 4000000 in
theorem fltest_any (bs : List Int) (r1 r2 r3 r4 : Int) (L : Nat → Nat) (hL : LocIs r1 r2 r3 r4 L) (hbase : BaseIs bs r1 r2 r3 r4) (B f p m k Lb : Nat) (ws : List Nat) (cap : Nat) (a : Option Addr) (dn dc : Nat) (w : World)
    (hb : Bf B w f p m k Lb ws cap) (hd : Bt w a dn dc bs) (hm : 0 < m) (hmL : m ≤ Lb) (hLw : Lb ≤ 64 * ws.length) (hL5 : Lb ≤ 100000) (hk : k ≤ 100000) :
    Calls Try.prog 48 #[.pointer (some ⟨f, 0, none⟩), .slice a dn dc] w fun e w' => e = .returned (.bool (tests L m k ws)) ∧ Below w.heap.size w w' := by
  have HL := Lib.hid hL
  have HBC := Lib.hid (hbase dn dc a w hd.1 hd.2.1 hd.2.2.1 hd.2.2.2.1 hd.2.2.2.2)
  have HBF := Lib.hid hb
  have HLW := Lib.hid hLw
  clear hL hbase hd hb hLw
  go_enter Try.func48, Try.ntmps48
  go_wp2_with fail
  refine HBC.out.mono ?_
  rintro e w2 ⟨rfl, hb2⟩
  have HBB := Lib.hid (hb2.alloc hb2.size (.cells #[.int .u64 r1, .int .u64 r2, .int .u64 r3, .int .u64 r4] 102))
  have HBK := Lib.hid (Blk.new w2 102 #[.int .u64 r1, .int .u64 r2, .int .u64 r3, .int .u64 r4])
  clear hb2
  go_wp2_with fail
  go_loopg [6] k (fun c iv wr => TestLoop r1 r2 r3 r4 L m k ws w2.heap.size w c iv wr)
  case atStart => exact ⟨0, rfl, by omega, fun q hq => absurd hq (by omega), HBK.out, HBB.out⟩
  case round =>
    obtain ⟨i, rfl, hik, hall, hhb, hbel⟩ := hrel
    have hbf := HBF.out.below hbel
    have q1 : wr.cell? ⟨f, 1, none⟩ = some (.int .u64 (k : Int)) := hbf.2.1.cell 1 rfl
    have HBFR := Lib.hid hbf
    have HALL := Lib.hid hall
    have HHB := Lib.hid hhb
    have HBEL := Lib.hid hbel
    clear hbf hall hhb hbel
    by_cases hi : i < k
    · cases gk with
      | zero => omega
      | succ c =>
        obtain ⟨l, hl⟩ : ∃ l, L i % m = l := ⟨_, rfl⟩
        have hlm : l < m := by rw [← hl]; exact Nat.mod_lt _ hm
        obtain ⟨X, hX⟩ : ∃ X, Bsm.bit ws l = X := ⟨_, rfl⟩
        have bkd := HBFR.out.2.1.drew
        have hhd := HHB.out.drew
        have d2 : wr.drew.cell? ⟨f, 2, none⟩ = some (.pointer (some ⟨p, 0, none⟩)) := bkd.cell 2 rfl
        have u0 : wr.drew.cell? ⟨w2.heap.size, 0, none⟩ = some (.int .u64 r1) := hhd.cell 0 rfl
        have u1 : wr.drew.cell? ⟨w2.heap.size, 1, none⟩ = some (.int .u64 r2) := hhd.cell 1 rfl
        have u2 : wr.drew.cell? ⟨w2.heap.size, 2, none⟩ = some (.int .u64 r3) := hhd.cell 2 rfl
        have u3 : wr.drew.cell? ⟨w2.heap.size, 3, none⟩ = some (.int .u64 r4) := hhd.cell 3 rfl
        have HC := Lib.hid (flloc_any r1 r2 r3 r4 L HL.out f m i l wr.drew (bkd.cell 0 rfl) hm (by omega) (by omega) hl)
        have HDS := Lib.hid (HBFR.out.2.2.1.drewN 1)
        have HT1 : Hid (∀ w3, Bs B w3 p Lb ws cap → Calls Try.prog 59 #[.pointer (some ⟨p, 0, none⟩), .int .u64 (l : Int)] w3 fun e w' => e = .returned (.bool X) ∧ ∃ nq, w' = w3.drewN nq) := by
          refine Lib.hid fun w3 h => ?_
          have ht := test_any B p Lb l ws cap w3 h HLW.out hL5 (by omega)
          have e : (decide (l < Lb) && Bsm.bit ws l) = X := by
            rw [hX]
            have : decide (l < Lb) = true := by simp; omega
            rw [this, Bool.true_and]
          rw [e] at ht
          exact ht
        have HDB := Lib.hid bkd
        have HDH := Lib.hid hhd
        have HLL := Lib.hid hl
        have HX := Lib.hid hX
        clear bkd hhd hlm hl hX
        cases X with
        | false =>
          go_wp2_with fail
          go_region_held3 (fun w' => w'.cell? ⟨f, 2, none⟩ = some (.pointer (some ⟨p, 0, none⟩)) ∧ w'.cell? ⟨w2.heap.size, 0, none⟩ = some (.int .u64 r1) ∧ w'.cell? ⟨w2.heap.size, 1, none⟩ = some (.int .u64 r2) ∧ w'.cell? ⟨w2.heap.size, 2, none⟩ = some (.int .u64 r3) ∧ w'.cell? ⟨w2.heap.size, 3, none⟩ = some (.int .u64 r4))
            ((first | go_keep | exact ⟨by assumption, by assumption, by assumption, by assumption, by assumption⟩))
            ((first
              | (go_at_call 72; (with_reducible refine Calls.mono HC.out ?_); rintro e w3 ⟨rfl, hb3⟩; have HB3 := Lib.hid hb3; have HS3 := Lib.hid (HDS.out.below hb3); have bk3 := HDB.out.below hb3 HDB.out.lt; have hh3 := HDH.out.below hb3 HDH.out.lt; have d2 : w3.cell? ⟨f, 2, none⟩ = some (.pointer (some ⟨p, 0, none⟩)) := bk3.cell 2 rfl; have u0 : w3.cell? ⟨w2.heap.size, 0, none⟩ = some (.int .u64 r1) := hh3.cell 0 rfl; have u1 : w3.cell? ⟨w2.heap.size, 1, none⟩ = some (.int .u64 r2) := hh3.cell 1 rfl; have u2 : w3.cell? ⟨w2.heap.size, 2, none⟩ = some (.int .u64 r3) := hh3.cell 2 rfl; have u3 : w3.cell? ⟨w2.heap.size, 3, none⟩ = some (.int .u64 r4) := hh3.cell 3 rfl; have HH3 := Lib.hid hh3; clear hb3 bk3 hh3)
              | (go_at_call 59; (with_reducible refine Calls.mono (HT1.out w3 HS3.out) ?_); rintro e w4 ⟨rfl, nq4, rfl⟩; have d2 : (w3.drewN nq4).cell? ⟨f, 2, none⟩ = some (.pointer (some ⟨p, 0, none⟩)) := d2; have u0 : (w3.drewN nq4).cell? ⟨w2.heap.size, 0, none⟩ = some (.int .u64 r1) := u0; have u1 : (w3.drewN nq4).cell? ⟨w2.heap.size, 1, none⟩ = some (.int .u64 r2) := u1; have u2 : (w3.drewN nq4).cell? ⟨w2.heap.size, 2, none⟩ = some (.int .u64 r3) := u2; have u3 : (w3.drewN nq4).cell? ⟨w2.heap.size, 3, none⟩ = some (.int .u64 r4) := u3)))
          all_goals
            go_wp2_with fail
            go_ret
            exact ⟨ret_bool (a := false) (by rw [tests_not L m k ws i hi (by rw [HLL.out]; exact HX.out)]), below_drewN (HBEL.out.drew.trans (HB3.out.mono HBEL.out.size)) _⟩
        | true =>
          go_wp2_with fail
          go_region_held3 (fun w' => w'.cell? ⟨f, 2, none⟩ = some (.pointer (some ⟨p, 0, none⟩)) ∧ w'.cell? ⟨w2.heap.size, 0, none⟩ = some (.int .u64 r1) ∧ w'.cell? ⟨w2.heap.size, 1, none⟩ = some (.int .u64 r2) ∧ w'.cell? ⟨w2.heap.size, 2, none⟩ = some (.int .u64 r3) ∧ w'.cell? ⟨w2.heap.size, 3, none⟩ = some (.int .u64 r4))
            ((first | go_keep | exact ⟨by assumption, by assumption, by assumption, by assumption, by assumption⟩))
            ((first
              | (go_at_call 72; (with_reducible refine Calls.mono HC.out ?_); rintro e w3 ⟨rfl, hb3⟩; have HB3 := Lib.hid hb3; have HS3 := Lib.hid (HDS.out.below hb3); have bk3 := HDB.out.below hb3 HDB.out.lt; have hh3 := HDH.out.below hb3 HDH.out.lt; have d2 : w3.cell? ⟨f, 2, none⟩ = some (.pointer (some ⟨p, 0, none⟩)) := bk3.cell 2 rfl; have u0 : w3.cell? ⟨w2.heap.size, 0, none⟩ = some (.int .u64 r1) := hh3.cell 0 rfl; have u1 : w3.cell? ⟨w2.heap.size, 1, none⟩ = some (.int .u64 r2) := hh3.cell 1 rfl; have u2 : w3.cell? ⟨w2.heap.size, 2, none⟩ = some (.int .u64 r3) := hh3.cell 2 rfl; have u3 : w3.cell? ⟨w2.heap.size, 3, none⟩ = some (.int .u64 r4) := hh3.cell 3 rfl; have HH3 := Lib.hid hh3; clear hb3 bk3 hh3)
              | (go_at_call 59; (with_reducible refine Calls.mono (HT1.out w3 HS3.out) ?_); rintro e w4 ⟨rfl, nq4, rfl⟩; have d2 : (w3.drewN nq4).cell? ⟨f, 2, none⟩ = some (.pointer (some ⟨p, 0, none⟩)) := d2; have u0 : (w3.drewN nq4).cell? ⟨w2.heap.size, 0, none⟩ = some (.int .u64 r1) := u0; have u1 : (w3.drewN nq4).cell? ⟨w2.heap.size, 1, none⟩ = some (.int .u64 r2) := u1; have u2 : (w3.drewN nq4).cell? ⟨w2.heap.size, 2, none⟩ = some (.int .u64 r3) := u2; have u3 : (w3.drewN nq4).cell? ⟨w2.heap.size, 3, none⟩ = some (.int .u64 r4) := u3)))
          all_goals
            go_wp2_with fail
            go_roundg c
            case measure => omega
            case rel =>
              refine ⟨i + 1, by go_num, by omega, fun q hq => ?_, HH3.out.drewN _, below_drewN (HBEL.out.drew.trans (HB3.out.mono HBEL.out.size)) _⟩
              by_cases hqi : q = i
              · subst hqi; rw [HLL.out]; exact HX.out
              · exact HALL.out q (by omega)
    · obtain rfl : i = k := by omega
      have hd : decide ((i : Int) < (i : Int)) = false := by simp
      go_wp2_with fail
      go_ret
      exact ⟨ret_bool (a := true) (by rw [tests_all L m i ws HALL.out]), HBEL.out⟩

def AllLoop (bits : List Bool) (ls : List Nat) (n : Nat) (w : World) (c : Nat) (iv : Value) (wr : World) : Prop :=
  ∃ i : Nat, iv = .int .i64 (i : Int) ∧ i + c = n ∧ (∀ q, q < i → bits.getD (ls.getD q 0 % bits.length) false = true) ∧ wr = w

set_option maxRecDepth 100000 in
set_option maxHeartbeats 2000000 in
theorem blall_any (v u : Value) (bits : List Bool) (ls : List Nat) (w : World) (hv : Sl w v (bools bits)) (hu : Sl w u (u64s ls)) (h0 : 0 < bits.length) (h9 : bits.length ≤ 100000) (h8 : ls.length ≤ 100000) :
    Calls Try.prog 27 #[v, u] w fun e w' => e = .returned (.bool (ls.all fun l => bits.getD (l % bits.length) false)) ∧ w = w' := by
  obtain ⟨a1, n1, c1, rfl, hl1, hc1, hm1, hr1⟩ := hv
  obtain ⟨a2, n2, c2, rfl, hl2, hc2, hm2, hr2⟩ := hu
  rw [bools_len] at hl1
  have hl3 : ls.length = n2 := by simpa [u64s] using hl2
  have HL1 := Lib.hid hl1
  have HL3 := Lib.hid hl3
  have hn1 : 0 < n1 := by omega
  have hn19 : n1 ≤ 100000 := by omega
  have hn29 : n2 ≤ 100000 := by omega
  have hnz : ((n1 : Int) == 0) = false := by simp; omega
  have hnz2 : ¬ (n1 : Int) = 0 := by omega
  have hnz3 : ¬ n1 = 0 := by omega
  clear hl1 hl2 hl3 hc1 hm1 hc2 hm2 h0 h9 h8
  go_enter Try.func27, Try.ntmps27
  go_wp2_with fail
  go_loopg [5] n2 (fun c iv wr => AllLoop bits ls n2 w c iv wr)
  case atStart => exact ⟨0, rfl, by omega, fun q hq => absurd hq (by omega), rfl⟩
  case round =>
    obtain ⟨i, rfl, hik, hall, rfl⟩ := hrel
    have HALL := Lib.hid hall
    clear hall
    by_cases hi : i < n2
    · cases gk with
      | zero => omega
      | succ c =>
        obtain ⟨b2, o2, rfl, hcell2⟩ := hr2 (by omega)
        obtain ⟨b1, o1, rfl, hcell1⟩ := hr1 hn1
        have g2 := hcell2 i _ (u64s_at ls i (by rw [HL3.out]; exact hi))
        obtain ⟨Y, hY⟩ : ∃ Y, ls.getD i 0 = Y := ⟨_, rfl⟩
        rw [hY] at g2
        obtain ⟨l, hl⟩ : ∃ l, Y % n1 = l := ⟨_, rfl⟩
        have hln : l < n1 := by rw [← hl]; exact Nat.mod_lt _ hn1
        have hmod : (Y : Int).tmod (n1 : Int) = (l : Int) := by rw [Int.tmod_eq_emod_of_nonneg (by omega)]; omega
        have g1 := hcell1 l _ (bools_at bits l (by rw [HL1.out]; exact hln))
        obtain ⟨X, hX⟩ : ∃ X, bits.getD l false = X := ⟨_, rfl⟩
        rw [hX] at g1
        have HX : Hid (bits.getD (ls.getD i 0 % bits.length) false = X) := Lib.hid (by rw [hY, HL1.out, hl, hX])
        have hi0 : (0 : Int) ≤ (i : Int) := by omega
        have hi1 : (i : Int) < (n2 : Int) := by omega
        have hl0 : (0 : Int) ≤ (l : Int) := by omega
        have hl1 : (l : Int) < (n1 : Int) := by omega
        clear hr1 hr2 hcell1 hcell2 hX hY hl
        cases X
        · go_wp2_with fail
          go_ret
          refine ⟨?_, rfl⟩
          refine ret_bool (Eq.symm ?_)
          rw [List.all_eq_false]
          have hil : i < ls.length := by rw [HL3.out]; exact hi
          have hx := HX.out
          have eg : ls.getD i 0 = ls[i] := by rw [List.getD_eq_getElem?_getD, List.getElem?_eq_getElem hil]; rfl
          rw [eg] at hx
          exact ⟨ls[i], List.getElem_mem hil, by simpa using hx⟩
        · go_wp2_with fail
          go_roundg c
          case measure => omega
          case rel =>
            refine ⟨i + 1, by go_num, by omega, fun q hq => ?_, rfl⟩
            by_cases hqi : q = i
            · subst hqi; exact HX.out
            · exact HALL.out q (by omega)
    · obtain rfl : i = n2 := by omega
      have hd : decide ((i : Int) < (i : Int)) = false := by simp
      go_wp2_with fail
      go_ret
      refine ⟨ret_bool (Eq.symm ?_), rfl⟩
      rw [List.all_eq_true]
      intro l hl
      obtain ⟨q, hq, rfl⟩ := List.getElem_of_mem hl
      have h := HALL.out q (by rw [← HL3.out]; exact hq)
      have eg : ls.getD q 0 = ls[q] := by rw [List.getD_eq_getElem?_getD, List.getElem?_eq_getElem hq]; rfl
      rw [eg] at h
      exact h
end Go.Proofs.Ytbcbkieebelleaa
