/- The walk of (*BitSet).NextClear. -/
import Derived.Test.YtbcbkieebelleaaDoorNext
namespace Go.Proofs.YtbcbkieebelleaaDoor
set_option linter.unusedVariables false
open Go.RowKit

theorem tz_zero (w : World) : Calls Tryd.prog 21 #[.int .u64 0] w fun e w' => e = .returned (.int .i64 64) ∧ w = w' := by
  go_enter Tryd.func21, Tryd.ntmps21
  go_wp2
  go_ret
  exact ⟨rfl, rfl⟩
theorem tz_all (x : Nat) (hx : x < 18446744073709551616) (w : World) (hT : Tab w) :
    Calls Tryd.prog 21 #[.int .u64 (x : Int)] w fun e w' => e = .returned (.int .i64 (Lib.ctz 64 x : Nat)) ∧ w = w' := by
  by_cases h : x = 0
  · subst h
    exact tz_zero w
  · exact tz_any x hx h w hT

theorem clear_word (Y : Nat) (hY : Y < 18446744073709551616) (k : Nat) (hk : k < 64) (hb : Y.testBit k = false) :
    Lib.ctz 64 (18446744073709551615 - Y) ≤ k ∧ Y.testBit (Lib.ctz 64 (18446744073709551615 - Y)) = false ∧ ∀ j, j < Lib.ctz 64 (18446744073709551615 - Y) → Y.testBit j = true := by
  have hz : (18446744073709551615 - Y).testBit k = true := by rw [not_testBit Y k hY hk, hb]; rfl
  have hne : 18446744073709551615 - Y ≠ 0 := fun e => by rw [e] at hz; simp at hz
  obtain ⟨h1, h2⟩ := ctz_bits (18446744073709551615 - Y) hne (by omega)
  have hc := ctz_lt (18446744073709551615 - Y) hne (by omega)
  generalize Lib.ctz 64 (18446744073709551615 - Y) = c at *
  refine ⟨?_, ?_, fun j hj => ?_⟩
  · rcases Nat.lt_or_ge k c with h | h
    · rw [h2 k h] at hz; cases hz
    · exact h
  · rw [not_testBit Y c hY hc] at h1; simpa using h1
  · have := h2 j hj
    rw [not_testBit Y j hY (by omega)] at this
    simpa using this

theorem shr_cast (X s : Nat) : (X : Int) / 2 ^ s = ((X >>> s : Nat) : Int) := by rw [Nat.shiftRight_eq_div_pow]; push_cast; rfl
theorem nc_first (ws : List Nat) (i : Nat) (hw : ws.getD (i / 64) 0 < 18446744073709551616) (Y : Nat) (hy : ws.getD (i / 64) 0 >>> (i % 64) = Y) :
    Y < 18446744073709551616 ∧ (Y ≠ 18446744073709551615 >>> (i % 64) → i % 64 + Lib.ctz 64 (18446744073709551615 - Y) < 64 ∧ Bsm.bit ws (i + Lib.ctz 64 (18446744073709551615 - Y)) = false ∧ ∀ x, i ≤ x → x < i + Lib.ctz 64 (18446744073709551615 - Y) → Bsm.bit ws x = true) ∧
      (Y = 18446744073709551615 >>> (i % 64) → ∀ x, i ≤ x → x < 64 * (i / 64 + 1) → Bsm.bit ws x = true) := by
  have hYl : Y < 18446744073709551616 := by rw [← hy, Nat.shiftRight_eq_div_pow]; exact Nat.lt_of_le_of_lt (Nat.div_le_self _ _) hw
  have hall : (18446744073709551615 : Nat) = 2 ^ 64 - 1 := by decide
  refine ⟨hYl, fun hne => ?_, fun he x h1 h2 => ?_⟩
  · have hex : ∃ k, i % 64 + k < 64 ∧ Y.testBit k = false := by
      refine Classical.byContradiction fun hno => hne ?_
      apply Nat.eq_of_testBit_eq
      intro k
      rw [Nat.testBit_shiftRight, hall, Nat.testBit_two_pow_sub_one]
      by_cases hk : i % 64 + k < 64
      · cases hb : Y.testBit k
        · exact absurd ⟨k, hk, hb⟩ hno
        · simp [hk]
      · rw [← hy, Nat.testBit_shiftRight, Nat.testBit_lt_two_pow (Nat.lt_of_lt_of_le hw (by
          have e : (18446744073709551616 : Nat) = 2 ^ 64 := by decide
          rw [e]; exact Nat.pow_le_pow_right (by omega) (by omega)))]
        simp [hk]
    obtain ⟨k, hk, hb⟩ := hex
    obtain ⟨h1, h2, h3⟩ := clear_word Y hYl k (by omega) hb
    generalize Lib.ctz 64 (18446744073709551615 - Y) = c at *
    refine ⟨by omega, ?_, fun x hx hxc => ?_⟩
    · rw [← tzs_bits ws i c (by omega), hy]; exact h2
    · have := h3 (x - i) (by omega)
      rw [← hy, tzs_bits ws i (x - i) (by omega), show i + (x - i) = x by omega] at this
      exact this
  · rw [show x = i + (x - i) by omega, ← tzs_bits ws i (x - i) (by omega), hy, he, Nat.testBit_shiftRight, hall, Nat.testBit_two_pow_sub_one]
    simp
    omega

theorem nc_word (ws : List Nat) (q : Nat) (hw : ws.getD q 0 < 18446744073709551616) :
    (ws.getD q 0 ≠ 18446744073709551615 → Lib.ctz 64 (18446744073709551615 - ws.getD q 0) < 64 ∧ Bsm.bit ws (64 * q + Lib.ctz 64 (18446744073709551615 - ws.getD q 0)) = false ∧ ∀ x, 64 * q ≤ x → x < 64 * q + Lib.ctz 64 (18446744073709551615 - ws.getD q 0) → Bsm.bit ws x = true) ∧
      (ws.getD q 0 = 18446744073709551615 → ∀ x, 64 * q ≤ x → x < 64 * (q + 1) → Bsm.bit ws x = true) := by
  have h := nc_first ws (64 * q) (by rw [show 64 * q / 64 = q by omega]; exact hw) (ws.getD q 0) (by rw [show 64 * q / 64 = q by omega, show 64 * q % 64 = 0 by omega]; rfl)
  rw [show 64 * q % 64 = 0 by omega, show 64 * q / 64 = q by omega] at h
  refine ⟨fun hne => ?_, h.2.2⟩
  obtain ⟨h1, h2, h3⟩ := h.2.1 hne
  exact ⟨by omega, h2, h3⟩

/-- no place from i on, before M, at which there is a bit that is not set and counts -/
def AllSet (ws : List Nat) (L i M : Nat) : Prop := ∀ x, i ≤ x → x < M → x < L → Bsm.bit ws x = true

def ClearIs (ws : List Nat) (L i : Nat) (w : World) (e : Ending) (w' : World) : Prop := ∃ r, e = .returned (nextv r) ∧ IsNext (fun j => !Bsm.bit ws j) L i r ∧ w = w'
theorem ClearIs.no {ws : List Nat} {L i M : Nat} {w : World} (h : AllSet ws L i M) (hM : L ≤ M) : ClearIs ws L i w (.returned (.tuple #[.int .u64 0, .bool false])) w :=
  ⟨none, rfl, fun x h1 h2 => by simp only []; rw [h x h1 (by omega) h2]; rfl, rfl⟩
theorem ClearIs.yes {ws : List Nat} {L i j : Nat} {v : Int} {w : World} (h : AllSet ws L i j) (hv : v = (j : Int)) (hij : i ≤ j) (hL : j < L) (hb : Bsm.bit ws j = false) : ClearIs ws L i w (.returned (.tuple #[.int .u64 v, .bool true])) w :=
  ⟨some j, by rw [hv]; rfl, ⟨hij, hL, by simp only []; rw [hb]; rfl, fun q h1 h2 => by simp only []; rw [h q h1 h2 (by omega)]; rfl⟩, rfl⟩

def ClearLoop (ws : List Nat) (L i q n : Nat) (w : World) (k : Nat) (idx : Value) (wr : World) : Prop :=
  ∃ j : Nat, idx = .int .i64 (j : Int) ∧ q + 1 + j + k = n ∧ AllSet ws L i (64 * (q + 1 + j)) ∧ wr = w

set_option maxRecDepth 100000 in
set_option maxHeartbeats 8000000 in
theorem nextclear_any (B p L i : Nat) (ws : List Nat) (w : World) (hb : Bs B w p L ws ws.length) (hwl : ws.length = (L + 63) / 64) (hL9 : L ≤ 10000) (hi : i ≤ 100000) (hT : Tab w) :
    Calls Tryd.prog 17 #[.pointer (some ⟨p, 0, none⟩), .int .u64 (i : Int)] w (ClearIs ws L i w) := by
  obtain ⟨g, c0, c1, c2⟩ := hb.cells
  have hwlt := hb.word_lt
  have HT := Lib.hid hT
  clear hb hT
  by_cases hiL : i < L
  · have hge0 : decide ((L : Int) ≤ (i : Int)) = false := by simp; omega
    obtain ⟨n, hn⟩ : ∃ n, ws.length = n := ⟨_, rfl⟩
    obtain ⟨q, hq⟩ : ∃ q, i / 64 = q := ⟨_, rfl⟩
    have hqi : (i : Int) / 64 = (q : Int) := by omega
    have hqn : q < n := by omega
    have hL64 : L ≤ 64 * n := by omega
    have hn9 : n ≤ 1000 := by omega
    have HWLT := Lib.hid hwlt
    have HC2 := Lib.hid c2
    have HN := Lib.hid hn
    have HQ := Lib.hid hq
    rw [hn] at c1
    clear hwl c2 hwlt hn
    have hge : decide ((n : Int) ≤ (q : Int)) = false := by simp; omega
    have h1 := HC2.out q (by rw [HN.out]; exact hqn)
    obtain ⟨X, hX⟩ : ∃ X, ws.getD q 0 = X := ⟨_, rfl⟩
    have hXlt : X < 18446744073709551616 := by rw [← hX]; exact HWLT.out q
    rw [hX] at h1
    have hsh : (X : Int) / 2 ^ (i % 64) = ((X >>> (i % 64) : Nat) : Int) := by rw [Nat.shiftRight_eq_div_pow]; push_cast; rfl
    have hsa : (18446744073709551615 : Int) / (2 : Int) ^ (i % 64) = ((18446744073709551615 >>> (i % 64) : Nat) : Int) := shr_cast 18446744073709551615 (i % 64)
    obtain ⟨Y, hY⟩ : ∃ Y, X >>> (i % 64) = Y := ⟨_, rfl⟩
    have HF := nc_first ws i (by rw [hq, hX]; exact hXlt) Y (by rw [hq, hX]; exact hY)
    obtain ⟨A, hA⟩ : ∃ A, 18446744073709551615 >>> (i % 64) = A := ⟨_, rfl⟩
    obtain ⟨c, hc⟩ : ∃ c, Lib.ctz 64 (18446744073709551615 - Y) = c := ⟨_, rfl⟩
    rw [hY] at hsh
    rw [hA] at hsa HF
    rw [hc, hq] at HF
    have hYl := HF.1
    have HF1 := Lib.hid HF.2.1
    have HF2 := Lib.hid HF.2.2
    have HC := Lib.hid hc
    have hc64 : c ≤ 64 := by
      by_cases h0 : 18446744073709551615 - Y = 0
      · rw [h0] at hc; rw [← hc]; decide
      · have := ctz_lt _ h0 (by omega); omega
    have hnot := not_word Y hYl
    have hsg : IntKind.u64.signed = false := rfl
    have HYL := Lib.hid hYl
    clear hX hY hq HF hA hc hXlt hYl
    by_cases hA : Y = A
    · have hne : ((Y : Int) != (A : Int)) = false := by simp; omega
      have HPRE : Hid (AllSet ws L i (64 * (q + 1))) := fun x hx1 hx2 _ => HF2.out hA x hx1 hx2
      clear hA
      by_cases hlast : q + 1 = n
      · subst hlast
        go_enter Tryd.func17, Tryd.ntmps17
        go_wp2_with fail
        refine (windex_any i _ (by omega)).mono ?_
        rintro e w' ⟨rfl, rfl⟩
        go_wp2_with fail
        refine (windex_any i _ (by omega)).mono ?_
        rintro e w' ⟨rfl, rfl⟩
        go_wp2_with fail
        refine (tz_all _ (by omega) _ HT.out).mono ?_
        rintro e w' ⟨rfl, rfl⟩
        rw [HC.out]
        go_wp2_with fail
        refine wp_loop_rounds 1 ?_
        rw [rounds_succ]
        go_wp2_with fail
        go_ret2
        exact ClearIs.no HPRE.out hL64
      · obtain ⟨m, rfl⟩ : ∃ m, n = q + 1 + (m + 1) := ⟨n - (q + 2), by omega⟩
        clear hlast
        have hd19 : decide ((q : Int) + 1 + ((m : Int) + 1) ≤ (q : Int)) = false := by simp; omega
        go_enter Tryd.func17, Tryd.ntmps17
        go_wp2_with fail
        refine (windex_any i _ (by omega)).mono ?_
        rintro e w' ⟨rfl, rfl⟩
        go_wp2_with fail
        refine (windex_any i _ (by omega)).mono ?_
        rintro e w' ⟨rfl, rfl⟩
        go_wp2_with fail
        refine (tz_all _ (by omega) _ HT.out).mono ?_
        rintro e w' ⟨rfl, rfl⟩
        rw [HC.out]
        go_wp2_with fail
        (try clear hcl2); (try clear hne); (try clear hcl f1)
        go_loopg [69] (m + 1) (fun k idx wr => ClearLoop ws L i q (q + 1 + (m + 1)) w k idx wr)
        case atStart => exact ⟨0, rfl, by omega, HPRE.out, rfl⟩
        case round =>
          obtain ⟨j, rfl, hjk, hpre, rfl⟩ := hrel
          have HP := Lib.hid hpre
          clear hpre
          cases gk with
          | zero =>
            obtain rfl : j = m + 1 := by omega
            go_wp2_with fail
            go_ret2
            exact ClearIs.no HP.out (by omega)
          | succ k =>
            have hj : j < m + 1 := by omega
            have hj2 : (j : Int) < (m : Int) + 1 := by omega
            have h2 := HC2.out (q + 1 + j) (by rw [HN.out]; omega)
            have hZlt := HWLT.out (q + 1 + j)
            have hnw := nc_word ws (q + 1 + j) hZlt
            obtain ⟨Z, hZ⟩ : ∃ Z, ws.getD (q + 1 + j) 0 = Z := ⟨_, rfl⟩
            rw [hZ] at h2 hZlt hnw
            have HNW1 := Lib.hid hnw.1
            have HNW2 := Lib.hid hnw.2
            clear hnw hZ
            by_cases hz : Z = 18446744073709551615
            · subst hz
              have HPZ : Hid (AllSet ws L i (64 * (q + 1 + j + 1))) := fun x h1 h2 h3 => by
                by_cases hx : x < 64 * (q + 1 + j)
                · exact HP.out x h1 hx h3
                · exact HNW2.out rfl x (by omega) h2
              have hne : ((18446744073709551615 : Int) != 18446744073709551615) = false := by simp
              have h3 : wr.cell? ⟨g, q + 1 + j, none⟩ = some (.int .u64 18446744073709551615) := h2
              clear h2 hZlt
              go_wp2_with fail
              go_roundg k
              case measure => omega
              case rel => exact ⟨j + 1, by go_num, by omega, HPZ.out, rfl⟩
            · have hne : ((Z : Int) != 18446744073709551615) = true := by simp; omega
              have hN := HNW1.out hz
              obtain ⟨d, hd⟩ : ∃ d, Lib.ctz 64 (18446744073709551615 - Z) = d := ⟨_, rfl⟩
              rw [hd] at hN
              have HD := Lib.hid hd
              have hd64 := hN.1
              have HN2 := Lib.hid hN.2.1
              have HN3 : Hid (AllSet ws L i (64 * (q + 1 + j) + d)) := fun x h1 h2 h3 => by
                by_cases hx : x < 64 * (q + 1 + j)
                · exact HP.out x h1 hx h3
                · exact hN.2.2 x (by omega) h2
              have hnz := not_word Z hZlt
              clear hN hd hz
              have HZL := Lib.hid hZlt
              clear hZlt
              by_cases hdl : 64 * (q + 1 + j) + d < L
              · have hdl2 : decide (((q : Int) + 1 + (j : Int)) * 64 + (d : Int) < (L : Int)) = true := by simp; omega
                go_wp2_with fail
                refine (tz_all _ (by omega) _ HT.out).mono ?_
                rintro e w' ⟨rfl, rfl⟩
                rw [HD.out]
                go_wp2_with fail
                go_ret2
                exact ClearIs.yes HN3.out (by push_cast; omega) (by have := HQ.out; omega) hdl HN2.out
              · have hdl2 : decide (((q : Int) + 1 + (j : Int)) * 64 + (d : Int) < (L : Int)) = false := by simp; omega
                have HPZ : Hid (AllSet ws L i (64 * (q + 1 + j + 1))) := fun x h1 h2 h3 => HN3.out x h1 (by omega) h3
                go_wp2_with fail
                refine (tz_all _ (by omega) _ HT.out).mono ?_
                rintro e w' ⟨rfl, rfl⟩
                rw [HD.out]
                go_wp2_with fail
                go_roundg k
                case measure => omega
                case rel => exact ⟨j + 1, by go_num, by omega, HPZ.out, rfl⟩
    · have hne : ((Y : Int) != (A : Int)) = true := by simp; omega
      obtain ⟨f1, f2, f3⟩ := HF1.out hA
      have HB := Lib.hid f2
      have HS : Hid (AllSet ws L i (i + c)) := fun x hx1 hx2 _ => f3 x hx1 hx2
      clear hA f2 f3
      by_cases hcl : i + c < L
      · have hcl2 : decide ((i : Int) + (c : Int) < (L : Int)) = true := by simp; omega
        go_enter Tryd.func17, Tryd.ntmps17
        go_wp2_with fail
        refine (windex_any i _ (by omega)).mono ?_
        rintro e w' ⟨rfl, rfl⟩
        go_wp2_with fail
        refine (windex_any i _ (by omega)).mono ?_
        rintro e w' ⟨rfl, rfl⟩
        go_wp2_with fail
        refine (tz_all _ (by omega) _ HT.out).mono ?_
        rintro e w' ⟨rfl, rfl⟩
        rw [HC.out]
        go_wp2_with fail
        go_ret2
        exact ClearIs.yes HS.out (by push_cast; rfl) (by omega) hcl HB.out
      · have hcl2 : decide ((i : Int) + (c : Int) < (L : Int)) = false := by simp; omega
        have HPRE : Hid (AllSet ws L i (64 * (q + 1))) := fun x hx1 hx2 hx3 => HS.out x hx1 (by omega) hx3
        by_cases hlast : q + 1 = n
        · subst hlast
          go_enter Tryd.func17, Tryd.ntmps17
          go_wp2_with fail
          refine (windex_any i _ (by omega)).mono ?_
          rintro e w' ⟨rfl, rfl⟩
          go_wp2_with fail
          refine (windex_any i _ (by omega)).mono ?_
          rintro e w' ⟨rfl, rfl⟩
          go_wp2_with fail
          refine (tz_all _ (by omega) _ HT.out).mono ?_
          rintro e w' ⟨rfl, rfl⟩
          rw [HC.out]
          go_wp2_with fail
          refine wp_loop_rounds 1 ?_
          rw [rounds_succ]
          go_wp2_with fail
          go_ret2
          exact ClearIs.no HPRE.out hL64
        · obtain ⟨m, rfl⟩ : ∃ m, n = q + 1 + (m + 1) := ⟨n - (q + 2), by omega⟩
          clear hlast
          have hd19 : decide ((q : Int) + 1 + ((m : Int) + 1) ≤ (q : Int)) = false := by simp; omega
          go_enter Tryd.func17, Tryd.ntmps17
          go_wp2_with fail
          refine (windex_any i _ (by omega)).mono ?_
          rintro e w' ⟨rfl, rfl⟩
          go_wp2_with fail
          refine (windex_any i _ (by omega)).mono ?_
          rintro e w' ⟨rfl, rfl⟩
          go_wp2_with fail
          refine (tz_all _ (by omega) _ HT.out).mono ?_
          rintro e w' ⟨rfl, rfl⟩
          rw [HC.out]
          go_wp2_with fail
          (try clear hcl2); (try clear hne); (try clear hcl f1)
          go_loopg [69] (m + 1) (fun k idx wr => ClearLoop ws L i q (q + 1 + (m + 1)) w k idx wr)
          case atStart => exact ⟨0, rfl, by omega, HPRE.out, rfl⟩
          case round =>
            obtain ⟨j, rfl, hjk, hpre, rfl⟩ := hrel
            have HP := Lib.hid hpre
            clear hpre
            cases gk with
            | zero =>
              obtain rfl : j = m + 1 := by omega
              go_wp2_with fail
              go_ret2
              exact ClearIs.no HP.out (by omega)
            | succ k =>
              have hj : j < m + 1 := by omega
              have hj2 : (j : Int) < (m : Int) + 1 := by omega
              have h2 := HC2.out (q + 1 + j) (by rw [HN.out]; omega)
              have hZlt := HWLT.out (q + 1 + j)
              have hnw := nc_word ws (q + 1 + j) hZlt
              obtain ⟨Z, hZ⟩ : ∃ Z, ws.getD (q + 1 + j) 0 = Z := ⟨_, rfl⟩
              rw [hZ] at h2 hZlt hnw
              have HNW1 := Lib.hid hnw.1
              have HNW2 := Lib.hid hnw.2
              clear hnw hZ
              by_cases hz : Z = 18446744073709551615
              · subst hz
                have HPZ : Hid (AllSet ws L i (64 * (q + 1 + j + 1))) := fun x h1 h2 h3 => by
                  by_cases hx : x < 64 * (q + 1 + j)
                  · exact HP.out x h1 hx h3
                  · exact HNW2.out rfl x (by omega) h2
                have hne : ((18446744073709551615 : Int) != 18446744073709551615) = false := by simp
                have h3 : wr.cell? ⟨g, q + 1 + j, none⟩ = some (.int .u64 18446744073709551615) := h2
                clear h2 hZlt
                go_wp2_with fail
                go_roundg k
                case measure => omega
                case rel => exact ⟨j + 1, by go_num, by omega, HPZ.out, rfl⟩
              · have hne : ((Z : Int) != 18446744073709551615) = true := by simp; omega
                have hN := HNW1.out hz
                obtain ⟨d, hd⟩ : ∃ d, Lib.ctz 64 (18446744073709551615 - Z) = d := ⟨_, rfl⟩
                rw [hd] at hN
                have HD := Lib.hid hd
                have hd64 := hN.1
                have HN2 := Lib.hid hN.2.1
                have HN3 : Hid (AllSet ws L i (64 * (q + 1 + j) + d)) := fun x h1 h2 h3 => by
                  by_cases hx : x < 64 * (q + 1 + j)
                  · exact HP.out x h1 hx h3
                  · exact hN.2.2 x (by omega) h2
                have hnz := not_word Z hZlt
                clear hN hd hz
                have HZL := Lib.hid hZlt
                clear hZlt
                by_cases hdl : 64 * (q + 1 + j) + d < L
                · have hdl2 : decide (((q : Int) + 1 + (j : Int)) * 64 + (d : Int) < (L : Int)) = true := by simp; omega
                  go_wp2_with fail
                  refine (tz_all _ (by omega) _ HT.out).mono ?_
                  rintro e w' ⟨rfl, rfl⟩
                  rw [HD.out]
                  go_wp2_with fail
                  go_ret2
                  exact ClearIs.yes HN3.out (by push_cast; omega) (by have := HQ.out; omega) hdl HN2.out
                · have hdl2 : decide (((q : Int) + 1 + (j : Int)) * 64 + (d : Int) < (L : Int)) = false := by simp; omega
                  have HPZ : Hid (AllSet ws L i (64 * (q + 1 + j + 1))) := fun x h1 h2 h3 => HN3.out x h1 (by omega) h3
                  go_wp2_with fail
                  refine (tz_all _ (by omega) _ HT.out).mono ?_
                  rintro e w' ⟨rfl, rfl⟩
                  rw [HD.out]
                  go_wp2_with fail
                  go_roundg k
                  case measure => omega
                  case rel => exact ⟨j + 1, by go_num, by omega, HPZ.out, rfl⟩
  · have hge : decide ((L : Int) ≤ (i : Int)) = true := by simp; omega
    go_enter Tryd.func17, Tryd.ntmps17
    go_wp2_with fail
    go_ret2
    exact ClearIs.no (M := L) (fun x h1 h2 _ => by omega) (Nat.le_refl _)
end Go.Proofs.YtbcbkieebelleaaDoor
