/- Walks of bmix, sum256, baseHashes: what they give depends on the bytes alone. -/
import Derived.Test.YtbcbkieebelleaaBlHash
import Derived.Outline
import Derived.Deep.DeepFit
import Derived.Deep.RegionHeld3
namespace Go.Proofs.Ytbcbkieebelleaa
set_option linter.unusedVariables false
open Go.RowKit

/-- the pointer of a slice whose elements are these bytes, below block B -/
def By (B : Nat) (w : World) (a : Option Addr) (bs : List Int) : Prop := 0 < bs.length → ∃ b o, a = some ⟨b, o, none⟩ ∧ b < B ∧ B ≤ w.heap.size ∧ ∀ i v, bs[i]? = some v → w.cell? ⟨b, o + i, none⟩ = some (.int .u8 v)
theorem By.below {B B' : Nat} {w w' : World} {a : Option Addr} {bs : List Int} (h : By B w a bs) (hb : Below B' w w') (hB : B ≤ B') (hs : w.heap.size ≤ w'.heap.size) : By B w' a bs := by
  intro h0
  obtain ⟨b, o, ha, hlt, hle, hc⟩ := h h0
  exact ⟨b, o, ha, hlt, by omega, fun i v hv => (hb.cell (p := ⟨b, o + i, none⟩) (by simp only []; omega)).trans (hc i v hv)⟩

/-- the digest behind i blocks -/
def dig (G1 G2 : Int → Int → Int → Int → Int) (U : Int → Int → Int → Int → Int → Int → Int → Int → Int) (bs : List Int) (y1 y2 : Int) : Nat → Int × Int
  | 0 => (y1, y2)
  | i + 1 =>
    let p := dig G1 G2 U bs y1 y2 i
    let x := fun j => bs.getD (16 * i + j) 0
    let k1 := U (x 0) (x 1) (x 2) (x 3) (x 4) (x 5) (x 6) (x 7)
    let k2 := U (x 8) (x 9) (x 10) (x 11) (x 12) (x 13) (x 14) (x 15)
    (G1 p.1 p.2 k1 k2, G2 p.1 p.2 k1 k2)

def MixLoop (D : Nat → Int × Int) (B d n : Nat) (a : Option Addr) (bs : List Int) (w : World) (k : Nat) (iv : Value) (wr : World) : Prop :=
  ∃ i : Nat, iv = .int .i64 (i : Int) ∧ i + k = n ∧ Dg wr d (D i).1 (D i).2 ∧ Below B w wr ∧ w.heap.size ≤ wr.heap.size

set_option maxRecDepth 100000 in
set_option maxHeartbeats 4000000 in
theorem mix_ex (bs : List Int) (y1 y2 : Int) (hn : bs.length ≤ 100000) : ∃ r1 r2 : Int, ∀ (B d n cap : Nat) (a : Option Addr) (w : World), Dg w d y1 y2 → By B w a bs → B ≤ d → n = bs.length → n ≤ cap → cap ≤ 9223372036854775807 →
    Calls Try.prog 86 #[.pointer (some ⟨d, 0, none⟩), .slice a n cap] w fun e w' => e = .returned (.tuple #[]) ∧
      Dg w' d r1 r2 ∧ Below B w w' ∧ w.heap.size ≤ w'.heap.size := by
  obtain ⟨U, hU⟩ := u64_ex
  obtain ⟨G1, G2, hG⟩ := bw_ex
  refine ⟨(dig G1 G2 U bs y1 y2 (bs.length / 16)).1, (dig G1 G2 U bs y1 y2 (bs.length / 16)).2, ?_⟩
  intro B d n cap a w hd hby hB hnl hcap hcm
  have hn5 : n ≤ 100000 := by omega
  obtain ⟨N, hN⟩ : ∃ N : Nat, n / 16 = N := ⟨_, rfl⟩
  obtain ⟨D, hD⟩ : ∃ D, dig G1 G2 U bs y1 y2 = D := ⟨_, rfl⟩
  have hq : (n : Int).tdiv 16 = (N : Int) := by rw [Int.tdiv_eq_ediv_of_nonneg (by omega)]; omega
  have hD0 : Dg w d (D 0).1 (D 0).2 := by rw [← hD]; exact hd
  have hDN : D (bs.length / 16) = D N := by rw [← hnl, hN]
  rw [hD, hDN]
  have hNb : N ≤ 100000 := by omega
  have hw : wrap64 (N : Int) = (N : Int) := IntWalk.wrap64_in _ (by omega)
  have HN := Lib.hid hN
  have HD0 := Lib.hid hD0
  have HBY := Lib.hid hby
  have HB := Lib.hid hB
  have HNL := Lib.hid hnl
  clear hN hD0 hby hB hnl hd hn hDN
  go_enter Try.func86, Try.ntmps86
  go_wp2_with fail
  go_loopg [5] N (fun k iv wr => MixLoop D B d N a bs w k iv wr)
  case atStart => exact ⟨0, rfl, by omega, HD0.out, Below.refl _ _, Nat.le_refl _⟩
  case round =>
    obtain ⟨i, rfl, hik, hdg, hbel, hsz⟩ := hrel
    by_cases hi : i < N
    · cases gk with
      | zero => omega
      | succ k =>
        have hN16 : 16 * N ≤ n := by have := HN.out; omega
        have hby := HBY.out.below hbel (Nat.le_refl _) hsz
        obtain ⟨b, o, rfl, hlt, hle, hc⟩ := hby (by rw [← HNL.out]; omega)
        obtain ⟨q, hqi⟩ : ∃ q : Nat, 16 * i = q := ⟨_, rfl⟩
        have hq16 : q + 16 ≤ n := by omega
        have s1 : IntKind.i64.wrap ((i : Int) * 16) = (q : Int) := by rw [IntKind.wrap_i64]; omega
        have s2 : (i + 1) * 16 - q = 16 := by omega
        obtain ⟨C, hC⟩ : ∃ C : Nat, cap - q = C := ⟨_, rfl⟩
        have hC16 : 16 ≤ C := by omega
        have hCm : C ≤ 9223372036854775807 := by omega
        have hC8 : ¬ C = 8 := by omega
        have hC8a : 8 ≤ C := by omega
        have hC8b : (8 : Int) ≤ (C : Int) := by omega
        have hcell : ∀ j, j < 16 → ∀ w5, Below wr.heap.size wr w5 → w5.cell? ⟨b, o + q + j, none⟩ = some (.int .u8 (bs.getD (16 * i + j) 0)) := by
          intro j hj w5 hb5
          have hl : q + j < bs.length := by rw [← HNL.out]; omega
          have h := hc (q + j) (bs[q + j]'hl) (List.getElem?_eq_getElem hl)
          have e : bs.getD (16 * i + j) 0 = bs[q + j]'hl := by
            rw [hqi, List.getD_eq_getElem?_getD, List.getElem?_eq_getElem hl]; rfl
          rw [e, Nat.add_assoc]
          exact (hb5.cell (p := ⟨b, o + (q + j), none⟩) (by simp only []; omega)).trans h
        obtain ⟨k1, hk1⟩ : ∃ k1, U (bs.getD (16 * i + 0) 0) (bs.getD (16 * i + 1) 0) (bs.getD (16 * i + 2) 0) (bs.getD (16 * i + 3) 0) (bs.getD (16 * i + 4) 0) (bs.getD (16 * i + 5) 0) (bs.getD (16 * i + 6) 0) (bs.getD (16 * i + 7) 0) = k1 := ⟨_, rfl⟩
        obtain ⟨k2, hk2⟩ : ∃ k2, U (bs.getD (16 * i + 8) 0) (bs.getD (16 * i + 9) 0) (bs.getD (16 * i + 10) 0) (bs.getD (16 * i + 11) 0) (bs.getD (16 * i + 12) 0) (bs.getD (16 * i + 13) 0) (bs.getD (16 * i + 14) 0) (bs.getD (16 * i + 15) 0) = k2 := ⟨_, rfl⟩
        have HK1 : Hid (∀ w5, Below wr.heap.size wr w5 → ∀ c, Calls Try.prog 88 #[.agg #[], .slice (some ⟨b, o + q, none⟩) 8 c] w5 fun e w' => e = .returned (.int .u64 k1) ∧ Below w5.heap.size w5 w') := by
          refine Lib.hid fun w5 h c => ?_
          have hz := hU _ _ _ _ _ _ _ _ b (o + q) c w5 (hcell 0 (by omega) w5 h) (hcell 1 (by omega) w5 h) (hcell 2 (by omega) w5 h) (hcell 3 (by omega) w5 h) (hcell 4 (by omega) w5 h) (hcell 5 (by omega) w5 h) (hcell 6 (by omega) w5 h) (hcell 7 (by omega) w5 h)
          rw [hk1] at hz
          exact hz
        have HK2 : Hid (∀ w5, Below wr.heap.size wr w5 → ∀ c, Calls Try.prog 88 #[.agg #[], .slice (some ⟨b, o + q + 8, none⟩) 8 c] w5 fun e w' => e = .returned (.int .u64 k2) ∧ Below w5.heap.size w5 w') := by
          refine Lib.hid fun w5 h c => ?_
          have hz := hU _ _ _ _ _ _ _ _ b (o + q + 8) c w5 (hcell 8 (by omega) w5 h) (hcell 9 (by omega) w5 h) (hcell 10 (by omega) w5 h) (hcell 11 (by omega) w5 h) (hcell 12 (by omega) w5 h) (hcell 13 (by omega) w5 h) (hcell 14 (by omega) w5 h) (hcell 15 (by omega) w5 h)
          rw [hk2] at hz
          exact hz
        have hDi : D (i + 1) = (G1 (D i).1 (D i).2 k1 k2, G2 (D i).1 (D i).2 k1 k2) := by
          rw [← hk1, ← hk2, ← hD]; rfl
        have HDI := Lib.hid hDi
        have HDG := Lib.hid hdg
        have HBEL := Lib.hid hbel
        have HSZ := Lib.hid hsz
        have HT : Hid (Below wr.heap.size wr wr.drew) := Lib.hid (Below.refl _ _).drew
        clear hcell hc hby hk1 hk2 hDi hdg hbel hsz hU hD hqi
        go_wp2_with fail
        simp only [s2]
        go_region_held3 (fun w' => True) (exact trivial)
          ((first
            | (go_at_call 88; go_fit (HK1.out _ HT.out _); rintro e wn ⟨rfl, hbn⟩; have HT := Lib.hid (HT.out.trans (hbn.mono HT.out.size)); clear hbn)
            | (go_at_call 88; go_fit (HK2.out _ HT.out _); rintro e wn ⟨rfl, hbn⟩; have HT := Lib.hid (HT.out.trans (hbn.mono HT.out.size)); clear hbn)))
        all_goals
          go_wp2_with fail
          refine (hG B d _ _ k1 k2 wn (HDG.out.below HT.out HDG.out.lt) HB.out).mono ?_
          rintro e wz ⟨rfl, hdz, hbz, hsz⟩
          go_wp2_with fail
          go_roundg k
          case measure => omega
          case rel =>
            have hbel2 := HBEL.out.trans ((HT.out.mono (by have := HSZ.out; omega)).trans hbz)
            refine ⟨i + 1, by go_num, by omega, ?_, hbel2, ?_⟩
            · rw [HDI.out]; exact hdz
            · have := HSZ.out; have := HT.out.size; omega
    · obtain rfl : i = N := by omega
      have hd : decide ((i : Int) < (i : Int)) = false := by simp
      go_wp2_with fail
      refine bodyPost_end (results_none rfl _ _ _) rfl ?_
      exact ⟨rfl, hdg, hbel, hsz⟩
end Go.Proofs.Ytbcbkieebelleaa
