/- Walks of Locations and impl.BLLocations. -/
import Derived.Test.YtbcbkieebelleaaBlBase
import Derived.Outline
namespace Go.Proofs.Ytbcbkieebelleaa
set_option linter.unusedVariables false
open Go.RowKit

def lays (L : Nat → Nat) (k i : Nat) : List Nat := (List.range k).map fun j => if j < i then L j else 0
theorem lays_len (L : Nat → Nat) (k i : Nat) : (lays L k i).length = k := by simp [lays]
theorem lays_zero (L : Nat → Nat) (k : Nat) : u64s (lays L k 0) = List.replicate k (.int .u64 0) := by
  unfold u64s lays
  apply List.ext_getElem
  · simp
  · intro j h1 h2; simp
theorem lays_set (L : Nat → Nat) (k i : Nat) (hi : i < k) : (u64s (lays L k i)).set i (.int .u64 (L i : Int)) = u64s (lays L k (i + 1)) := by
  unfold u64s lays
  apply List.ext_getElem
  · simp
  · intro j h1 h2
    simp only [List.getElem_set, List.getElem_map, List.getElem_range]
    by_cases hij : i = j
    · subst hij; simp
    · have e : (j < i + 1) = (j < i) := by apply propext; omega
      simp [hij, e]
theorem lays_at (L : Nat → Nat) (k i j : Nat) (hj : j < k) : (u64s (lays L k i))[j]? = some (.int .u64 ((if j < i then L j else 0 : Nat) : Int)) := by
  unfold u64s lays
  simp [hj]

theorem By.weaken {B B' : Nat} {w : World} {a : Option Addr} {bs : List Int} (h : By B w a bs) (hB : B ≤ B') (hw : B' ≤ w.heap.size) : By B' w a bs := by
  intro h0
  obtain ⟨b, o, ha, hlt, hle, hc⟩ := h h0
  exact ⟨b, o, ha, by omega, hw, hc⟩

/-- L are the locations that the four values give -/
def LocIs (r1 r2 r3 r4 : Int) (L : Nat → Nat) : Prop := ∀ i, i ≤ 100000 → L i < 18446744073709551616 ∧ ∀ w : World,
    Calls Try.prog 71 #[.agg #[.int .u64 r1, .int .u64 r2, .int .u64 r3, .int .u64 r4], .int .u64 (i : Int)] w fun e w' => e = .returned (.int .u64 (L i : Int)) ∧ Below w.heap.size w w'
/-- the four values of these bytes -/
def BaseIs (bs : List Int) (r1 r2 r3 r4 : Int) : Prop := ∀ (n cap : Nat) (a : Option Addr) (w : World), By w.heap.size w a bs → n = bs.length → n ≤ cap → cap ≤ 9223372036854775807 → (0 < n → ∃ b o, a = some ⟨b, o, none⟩) →
    Calls Try.prog 70 #[.slice a n cap] w fun e w' => e = .returned (.agg #[.int .u64 r1, .int .u64 r2, .int .u64 r3, .int .u64 r4]) ∧ Below w.heap.size w w'

def LocLoop (r1 r2 r3 r4 : Int) (L : Nat → Nat) (n g hb : Nat) (w : World) (k : Nat) (iv : Value) (wr : World) : Prop :=
  ∃ i : Nat, iv = .int .u64 (i : Int) ∧ i + k = n ∧ wr.ownsRow w.heap.size 52 1 (.slice (some ⟨g, 0, none⟩) n n) n (u64s (lays L n i)) ∧
    Blk wr hb 102 #[.int .u64 r1, .int .u64 r2, .int .u64 r3, .int .u64 r4] ∧ Below w.heap.size w wr

set_option maxRecDepth 100000 in
set_option maxHeartbeats 4000000 in
theorem locs_any (bs : List Int) (r1 r2 r3 r4 : Int) (L : Nat → Nat) (hL : LocIs r1 r2 r3 r4 L) (hbase : BaseIs bs r1 r2 r3 r4) (n cap m : Nat) (a : Option Addr) (w : World) (hby : By w.heap.size w a bs) (hnl : n = bs.length) (hcap : n ≤ cap) (hcm : cap ≤ 9223372036854775807) (han : 0 < n → ∃ b o, a = some ⟨b, o, none⟩) (hm : m ≤ 100000) :
    Calls Try.prog 47 #[.slice a n cap, .int .u64 (m : Int)] w fun e w' => ∃ v', e = .returned v' ∧ w'.ownsRow w.heap.size 52 1 v' m (u64s (lays L m m)) ∧ Below w.heap.size w w' := by
  have HL := Lib.hid hL
  have HBASE := Lib.hid hbase
  have HBY := Lib.hid hby
  have HNL := Lib.hid hnl
  have HCAP := Lib.hid hcap
  have HCM := Lib.hid hcm
  have HAN := Lib.hid han
  clear hL hbase hby hnl hcap hcm han
  go_enter Try.func47, Try.ntmps47
  go_wp2_with (at_make; refine wpList_make1 rfl _ _ 37 rfl w.heap.size 52 (.int .u64 0) 8 Try.underlying37 info_w64 rfl _ _ _ _ m rfl rfl rfl rfl (by omega) (by unfold maxLen; omega) (Nat.le_refl _) ?_; intro w1 hown1 hb1 hs1)
  have HOWN1 := Lib.hid hown1
  have HB1 := Lib.hid hb1
  have HS1 := Lib.hid hs1
  have HBY1 := Lib.hid ((HBY.out.below hb1 (Nat.le_refl _) (by omega)).weaken (B' := w1.heap.size) (by omega) (Nat.le_refl _))
  clear hown1 hb1 hs1
  refine (HBASE.out n cap a w1 HBY1.out HNL.out HCAP.out HCM.out HAN.out).mono ?_
  rintro e w2 ⟨rfl, hb2⟩
  have hz2 := hb2.size
  have HB2 := Lib.hid hb2
  have HOWN2 := Lib.hid (ownsRow_below HOWN1.out hb2)
  clear hb2
  have HBK := Lib.hid (Blk.new w2 102 #[.int .u64 r1, .int .u64 r2, .int .u64 r3, .int .u64 r4])
  go_wp2_with fail
  have HG : Hid (w.heap.size < w2.heap.size) := Lib.hid (by have := HS1.out; omega)
  have HBEL0 : Hid (Below w.heap.size w (w2.alloc (.cells #[.int .u64 r1, .int .u64 r2, .int .u64 r3, .int .u64 r4] 102))) :=
    Lib.hid ((HB1.out.trans (HB2.out.mono (by have := HS1.out; omega))).alloc (by have := HS1.out; omega) _)
  go_loopg [7] m (fun k iv wr => LocLoop r1 r2 r3 r4 L m w.heap.size w2.heap.size w k iv wr)
  case atStart => exact ⟨0, rfl, by omega, by rw [lays_zero]; exact HOWN2.out.alloc _, HBK.out, HBEL0.out⟩
  case round =>
    obtain ⟨i, rfl, hik, hown, hblk, hbel⟩ := hrel
    have HO := Lib.hid hown
    have HK := Lib.hid hblk
    have HBL := Lib.hid hbel
    have hb0 : wr.cell? ⟨w2.heap.size, 0, none⟩ = some (.int .u64 r1) := hblk.cell 0 rfl
    have hb1 : wr.cell? ⟨w2.heap.size, 1, none⟩ = some (.int .u64 r2) := hblk.cell 1 rfl
    have hb2 : wr.cell? ⟨w2.heap.size, 2, none⟩ = some (.int .u64 r3) := hblk.cell 2 rfl
    have hb3 : wr.cell? ⟨w2.heap.size, 3, none⟩ = some (.int .u64 r4) := hblk.cell 3 rfl
    clear hown hblk hbel
    by_cases hi : i < m
    · cases gk with
      | zero => omega
      | succ k =>
        have hi0 : (0 : Int) ≤ (i : Int) := by omega
        have hi1 : (i : Int) < (m : Int) := by omega
        go_wp2_with fail
        refine ((HL.out i (by omega)).2 wr).mono ?_
        rintro e w3 ⟨rfl, hb3'⟩
        have ho3 := ownsRow_below HO.out hb3'
        have hk3 := HK.out.below hb3' HK.out.lt
        have hc3 := ho3.cellAt i (by omega)
        rw [lays_at _ _ _ _ hi] at hc3
        have hf3 := ho3.frozenAt i
        have hst := ho3.stored i (.int .u64 (L i : Int))
        rw [lays_set L m i hi] at hst
        have HST := Lib.hid hst
        have HK3 := Lib.hid hk3
        have HB3 := Lib.hid (HBL.out.trans (hb3'.mono HBL.out.size))
        clear ho3 hk3 hst hb3' hb0 hb1 hb2 hb3
        go_wp2_with fail
        go_roundg k
        case measure => omega
        case rel => exact ⟨i + 1, by go_num, by omega, HST.out.1, HK3.out.other (by have := HG.out; simp only []; omega) _, HB3.out.setCell (Nat.le_refl _) _⟩
    · obtain rfl : i = m := by omega
      have hd : decide ((i : Int) < (i : Int)) = false := by simp
      go_wp2_with fail
      go_ret
      exact ⟨_, rfl, HO.out, HBL.out⟩

theorem bllocs_any (bs : List Int) (r1 r2 r3 r4 : Int) (L : Nat → Nat) (hL : LocIs r1 r2 r3 r4 L) (hbase : BaseIs bs r1 r2 r3 r4) (n cap m : Nat) (a : Option Addr) (w : World) (hby : By w.heap.size w a bs) (hnl : n = bs.length) (hcap : n ≤ cap) (hcm : cap ≤ 9223372036854775807) (han : 0 < n → ∃ b o, a = some ⟨b, o, none⟩) (hm : m ≤ 100000) :
    Calls Try.prog 26 #[.slice a n cap, .int .u64 (m : Int)] w fun e w' => ∃ v', e = .returned v' ∧ w'.ownsRow w.heap.size 52 1 v' m (u64s (lays L m m)) ∧ Below w.heap.size w w' := by
  have HC := Lib.hid (locs_any bs r1 r2 r3 r4 L hL hbase n cap m a w hby hnl hcap hcm han hm)
  clear hL hbase hby hnl hcap hcm han hm
  go_enter Try.func26, Try.ntmps26
  go_wp2_with fail
  refine HC.out.mono ?_
  rintro e w1 ⟨v, rfl, hown, hb⟩
  go_wp2_with fail
  go_ret
  exact ⟨_, rfl, hown, hb⟩
end Go.Proofs.Ytbcbkieebelleaa
