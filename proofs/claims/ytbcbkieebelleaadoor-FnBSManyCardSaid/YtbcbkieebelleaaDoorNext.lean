/- Walks of (*BitSet).NextSet and NextClear, and of spec.BSNext. -/
import Derived.Test.YtbcbkieebelleaaDoorTz
import Derived.Test.YtbcbkieebelleaaDoorBsWhole
import Derived.Deep.LoopGhost
namespace Go.Proofs.YtbcbkieebelleaaDoor
set_option linter.unusedVariables false
open Go.RowKit

/-- the loop of NextSet and NextClear: the words up to i are behind it -/
def NextLoop (f : Nat → Bool) (i q n : Nat) (w : World) (k : Nat) (idx : Value) (wr : World) : Prop :=
  ∃ j : Nat, idx = .int .i64 (j : Int) ∧ q + 1 + j + k = n ∧ (∀ x, i ≤ x → x < 64 * (q + 1 + j) → f x = false) ∧ ∃ nq, wr = w.drewN nq

def NextIs (f : Nat → Bool) (M i : Nat) (w : World) (e : Ending) (w' : World) : Prop := ∃ r, e = .returned (nextv r) ∧ IsNext f M i r ∧ ∃ nq, w' = w.drewN nq

set_option maxRecDepth 100000 in
set_option maxHeartbeats 4000000 in
theorem nextset_any (B p L i : Nat) (ws : List Nat) (w : World) (hb : Bs B w p L ws ws.length) (hn9 : ws.length ≤ 1000) (hi : i ≤ 100000) (hT : Tab w) :
    Calls Tryd.prog 16 #[.pointer (some ⟨p, 0, none⟩), .int .u64 (i : Int)] w (NextIs (Bsm.bit ws) (64 * ws.length) i w) := by
  obtain ⟨g, c0, c1, c2⟩ := hb.cells
  obtain ⟨n, hn⟩ : ∃ n, ws.length = n := ⟨_, rfl⟩
  obtain ⟨q, hq⟩ : ∃ q, i / 64 = q := ⟨_, rfl⟩
  have hqi : (i : Int) / 64 = (q : Int) := by omega
  have hwlt := hb.word_lt
  have HWLT := Lib.hid hwlt
  have HC2 := Lib.hid c2
  have HN := Lib.hid hn
  have HQ := Lib.hid hq
  have HT := Lib.hid hT
  rw [hn] at c1 hn9
  clear hb c0 c2 hwlt hn hT
  by_cases hqn : q < n
  · have hge : decide ((n : Int) ≤ (q : Int)) = false := by simp; omega
    have h1 := HC2.out q (by rw [HN.out]; exact hqn)
    obtain ⟨X, hX⟩ : ∃ X, ws.getD q 0 = X := ⟨_, rfl⟩
    have hXlt : X < 18446744073709551616 := by rw [← hX]; exact HWLT.out q
    rw [hX] at h1
    have hsh : (X : Int) / 2 ^ (i % 64) = ((X >>> (i % 64) : Nat) : Int) := by rw [Nat.shiftRight_eq_div_pow]; push_cast; rfl
    obtain ⟨Y, hY⟩ : ∃ Y, X >>> (i % 64) = Y := ⟨_, rfl⟩
    rw [hY] at hsh
    have HX := Lib.hid hX
    have HY := Lib.hid hY
    clear hX hY hq
    by_cases h0 : Y = 0
    · subst h0
      have hsh0 : (X : Int) / 2 ^ (i % 64) = 0 := by rw [hsh]; rfl
      clear hsh
      have HPRE : Hid (∀ x, i ≤ x → x < 64 * (q + 1) → Bsm.bit ws x = false) := by
        have := tzs_none ws i (by rw [HQ.out, HX.out]; exact HY.out)
        rw [HQ.out] at this
        exact this
      by_cases hlast : q + 1 = n
      · subst hlast
        go_enter Tryd.func16, Tryd.ntmps16
        go_wp2_with fail
        go_quiet ((go_at_call 20; exact Calls.quiet_of_same (windex_still i _ (by omega))))
        go_wp2_with fail
        refine wp_loop_rounds 1 ?_
        rw [rounds_succ]
        go_wp2_with fail
        go_ret2
        exact ⟨none, rfl, fun x h1 h2 => HPRE.out x h1 (by rw [HN.out] at h2; exact h2), _, rfl⟩
      · obtain ⟨m, rfl⟩ : ∃ m, n = q + 1 + (m + 1) := ⟨n - (q + 2), by omega⟩
        clear hlast
        go_enter Tryd.func16, Tryd.ntmps16
        go_wp2_with fail
        go_quiet ((go_at_call 20; exact Calls.quiet_of_same (windex_still i _ (by omega))))
        have hd19 : decide ((q : Int) + 1 + ((m : Int) + 1) ≤ (q : Int)) = false := by simp; omega
        go_wp2_with fail
        go_loopg [46] (m + 1) (fun k idx wr => NextLoop (Bsm.bit ws) i q (q + 1 + (m + 1)) w k idx wr)
        case atStart => exact ⟨0, rfl, by omega, HPRE.out, _, rfl⟩
        case round =>
          obtain ⟨j, rfl, hjk, hpre, nr, rfl⟩ := hrel
          have HP := Lib.hid hpre
          clear hpre
          cases gk with
          | zero =>
            obtain rfl : j = m + 1 := by omega
            go_wp2_with fail
            go_ret2
            exact ⟨none, rfl, fun x h1 h2 => HP.out x h1 (by rw [HN.out] at h2; omega), _, rfl⟩
          | succ k =>
            have hj : j < m + 1 := by omega
            have hj2 : (j : Int) < (m : Int) + 1 := by omega
            have h2 := HC2.out (q + 1 + j) (by rw [HN.out]; omega)
            have hZlt := HWLT.out (q + 1 + j)
            by_cases hz : ws.getD (q + 1 + j) 0 = 0
            · have HPZ := Lib.hid (word_none ws i (q + 1 + j) HP.out hz)
              rw [hz] at h2
              clear hz hZlt
              go_wp2_with fail
              go_roundg k
              case measure => omega
              case rel => exact ⟨j + 1, by go_num, by omega, fun x h1 h3 => HPZ.out x h1 (by omega), _, rfl⟩
            · have HS := Lib.hid (word_some ws i (q + 1 + j) hZlt (by rw [HN.out]; omega) (by have := HQ.out; omega) HP.out hz)
              obtain ⟨Z, hZ⟩ : ∃ Z, ws.getD (q + 1 + j) 0 = Z := ⟨_, rfl⟩
              rw [hZ] at h2 hZlt hz HS
              have hne : ((Z : Int) != 0) = true := by simp; omega
              have HZ0 := Lib.hid hz
              have HZL := Lib.hid hZlt
              clear hZ hz hZlt
              go_wp2_with fail
              refine (tz_any Z HZL.out HZ0.out _ (HT.out.drewN _)).mono ?_
              rintro e w' ⟨rfl, rfl⟩
              have HS2 := HS.out
              obtain ⟨c, hc⟩ : ∃ c, Lib.ctz 64 Z = c := ⟨_, rfl⟩
              rw [hc] at HS2 ⊢
              have HS3 := Lib.hid HS2.1
              have hc64 : c < 64 := HS2.2
              clear HS2 hc HS
              go_wp2_with fail
              go_ret2
              exact ⟨some (64 * (q + 1 + j) + c), by simp [nextv]; omega, HS3.out, _, rfl⟩
    · have hne : ((Y : Int) != 0) = true := by simp; omega
      have HS := Lib.hid (tzs_some ws i (HWLT.out _) (by rw [HQ.out, HN.out]; exact hqn) Y (by rw [HQ.out, HX.out]; exact HY.out) h0)
      have HH0 := Lib.hid h0
      clear h0
      go_enter Tryd.func16, Tryd.ntmps16
      go_wp2_with fail
      go_quiet ((go_at_call 20; exact Calls.quiet_of_same (windex_still i _ (by omega))))
      go_wp2_with fail
      refine (tz_any Y HS.out.2.2 HH0.out _ (HT.out.drewN _)).mono ?_
      rintro e w' ⟨rfl, rfl⟩
      have HS2 := HS.out
      obtain ⟨c, hc⟩ : ∃ c, Lib.ctz 64 Y = c := ⟨_, rfl⟩
      rw [hc] at HS2 ⊢
      have HS3 := Lib.hid HS2.1
      have hc64 : c < 64 := by have := HS2.2.1; omega
      clear HS2 hc HS
      go_wp2_with fail
      go_ret2
      exact ⟨some (i + c), by simp [nextv], HS3.out, _, rfl⟩
  · have hge : decide ((n : Int) ≤ (q : Int)) = true := by simp; omega
    go_enter Tryd.func16, Tryd.ntmps16
    go_wp2_with fail
    go_ret2
    exact ⟨none, rfl, fun x h1 h2 => bit_past ws x (by have := HN.out; have := HQ.out; omega), 0, rfl⟩

/-- the loop of BSNext -/
def SpecNextLoop (f : Nat → Bool) (i L : Nat) (w : World) (k : Nat) (idx : Value) (wr : World) : Prop :=
  ∃ j : Nat, idx = .int .i64 (j : Int) ∧ j + k = max i L ∧ i ≤ j ∧ (∀ x, i ≤ x → x < j → f x = false) ∧ wr = w

set_option maxRecDepth 100000 in
set_option maxHeartbeats 1000000 in
theorem specnext_any (v : Value) (bs : List Bool) (i : Nat) (is : Bool) (w : World) (hv : Sl w v (bools bs)) (hn : bs.length ≤ 100000) (hi : i ≤ 100000) :
    Calls Tryd.prog 12 #[v, .int .i64 (i : Int), .bool is] w fun e w' => ∃ r, e = .returned (nextv r) ∧ IsNext (fun j => bs.getD j false == is) bs.length i r ∧ w = w' := by
  obtain ⟨a, n, cap, rfl, hl, hc, hm, hr⟩ := hv
  rw [bools_len] at hl
  have HL := Lib.hid hl
  have hn2 : n ≤ 100000 := by omega
  clear hl hm hn
  go_enter Tryd.func12, Tryd.ntmps12
  go_wp2_with fail
  go_loopg [8] (max i n - i) (fun k idx wr => SpecNextLoop (fun j => bs.getD j false == is) i n w k idx wr)
  case atStart => exact ⟨i, rfl, by omega, Nat.le_refl _, fun x h1 h2 => by omega, rfl⟩
  case round =>
    obtain ⟨j, rfl, hjk, hij, hpre, rfl⟩ := hrel
    have HP := Lib.hid hpre
    clear hpre
    by_cases hj : j < n
    · obtain ⟨b, off, rfl, hcell⟩ := hr (by omega)
      have h1 := hcell j _ (bools_at bs j (by rw [HL.out]; exact hj))
      obtain ⟨X, hX⟩ : ∃ X, bs.getD j false = X := ⟨_, rfl⟩
      rw [hX] at h1
      have HX := Lib.hid hX
      clear hr hcell hX
      by_cases he : X = is
      · have hb : (X == is) = true := by simpa using he
        have HE := Lib.hid hb
        clear he
        go_wp2_with fail
        go_ret2
        exact ⟨some j, rfl, ⟨hij, by rw [HL.out]; exact hj, by show (bs.getD j false == is) = true; rw [HX.out]; exact HE.out, HP.out⟩, rfl⟩
      · have hb : (X == is) = false := by simpa using he
        have HE := Lib.hid hb
        clear he
        cases gk with
        | zero => omega
        | succ k =>
          go_wp2_with fail
          go_roundg k
          case measure => omega
          case rel => exact ⟨j + 1, by go_num, by omega, by omega, fun x h1 h2 => by
                        by_cases e : x = j
                        · subst e; show (bs.getD x false == is) = false; rw [HX.out]; exact HE.out
                        · exact HP.out x h1 (by omega), rfl⟩
    · have hd : decide ((j : Int) < (n : Int)) = false := by simp; omega
      go_wp2_with fail
      go_ret2
      exact ⟨none, rfl, fun x h1 h2 => HP.out x h1 (by rw [HL.out] at h2; omega), rfl⟩

/-- the words from one on, each turned over -/
def Bsm.notw (ws : List Nat) : List Nat := ws.map fun x => 18446744073709551615 - x
theorem Bsm.notw_len (ws : List Nat) : (Bsm.notw ws).length = ws.length := by simp [Bsm.notw]
theorem Bsm.notw_getD (ws : List Nat) (q : Nat) (h : q < ws.length) : (Bsm.notw ws).getD q 0 = 18446744073709551615 - ws.getD q 0 := by
  simp [Bsm.notw, h]
theorem Bsm.notw_lt (ws : List Nat) (q : Nat) : (Bsm.notw ws).getD q 0 < 18446744073709551616 := by
  rcases Nat.lt_or_ge q ws.length with h | h
  · rw [Bsm.notw_getD ws q h]; omega
  · rw [getD_past _ _ (by rw [Bsm.notw_len]; exact h)]; decide
theorem not_testBit (X k : Nat) (hX : X < 18446744073709551616) (hk : k < 64) : (18446744073709551615 - X).testBit k = !X.testBit k := by
  have h : 18446744073709551615 - X = 2 ^ 64 - (X + 1) := by omega
  rw [h, Nat.testBit_two_pow_sub_succ (by simpa using hX)]
  simp [hk]
theorem Bsm.bit_notw (ws : List Nat) (j : Nat) (hj : j < 64 * ws.length) (hx : ∀ q, ws.getD q 0 < 18446744073709551616) : Bsm.bit (Bsm.notw ws) j = !Bsm.bit ws j := by
  unfold Bsm.bit
  rw [Bsm.notw_getD ws _ (by omega), not_testBit _ _ (hx _) (by omega)]
/-- the first (partial) word of NextClear: what is compared, and where the first bit that is not set stands -/
theorem shr_not (X s : Nat) (hX : X < 18446744073709551616) (hs : s < 64) :
    ((18446744073709551615 - X >>> s) &&& (18446744073709551615 >>> s)) = (18446744073709551615 - X) >>> s := by
  apply Nat.eq_of_testBit_eq
  intro k
  have hXs : X >>> s < 18446744073709551616 := by rw [Nat.shiftRight_eq_div_pow]; exact Nat.lt_of_le_of_lt (Nat.div_le_self _ _) hX
  have hall : (18446744073709551615 : Nat) = 2 ^ 64 - 1 := by decide
  rw [Nat.testBit_and, Nat.testBit_shiftRight, Nat.testBit_shiftRight]
  by_cases hk : s + k < 64
  · rw [not_testBit _ _ hX hk, not_testBit _ _ hXs (by omega), Nat.testBit_shiftRight, hall, Nat.testBit_two_pow_sub_one]
    simp [hk]
  · have h1 : (18446744073709551615 : Nat).testBit (s + k) = false := by rw [hall, Nat.testBit_two_pow_sub_one]; simp; omega
    have h2 : (18446744073709551615 - X).testBit (s + k) = false := Nat.testBit_lt_two_pow (by
      have : 2 ^ 64 ≤ 2 ^ (s + k) := Nat.pow_le_pow_right (by omega) (by omega)
      have e : (2 : Nat) ^ 64 = 18446744073709551616 := by decide
      omega)
    rw [h1, h2]; simp
end Go.Proofs.YtbcbkieebelleaaDoor
