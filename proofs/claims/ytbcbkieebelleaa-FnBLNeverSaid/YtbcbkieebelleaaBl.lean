/- Walks of package bloom's New, FromWithM, Cap, K, BitSet, and of impl's told and filter, and spec.BLSame. -/
import Derived.Test.YtbcbkieebelleaaBsWords
import Derived.Test.YtbcbkieebelleaaBsWhole
import Derived.Outline
namespace Go.Proofs.Ytbcbkieebelleaa
set_option linter.unusedVariables false
open Go.RowKit

/-- v is a filter with m bits, k hash functions and these words -/
def Fil (w : World) (v : Value) (m k : Nat) (ws : List Nat) : Prop :=
  ∃ a n cap, v = .agg #[.int .u64 (m : Int), .int .u64 (k : Int), .slice a n cap] ∧ Sl w (.slice a n cap) (u64s ws) ∧ ∀ x ∈ ws, x < 18446744073709551616
theorem Fil.below {w w' : World} {v : Value} {m k : Nat} {ws : List Nat} {B : Nat} (h : Fil w v m k ws) (hB : B = w.heap.size) (hb : Below B w w') : Fil w' v m k ws := by
  obtain ⟨a, n, cap, rfl, h1, h2⟩ := h
  exact ⟨a, n, cap, rfl, h1.below hB hb, h2⟩
theorem Fil.drew {w : World} {v : Value} {m k : Nat} {ws : List Nat} (h : Fil w v m k ws) : Fil w.drew v m k ws := by
  exact h.below rfl (Below.refl _ _).drew
/-- a filter whose words the call made, from block B on -/
def OwnFil (B : Nat) (w : World) (v : Value) (m k : Nat) (ws : List Nat) : Prop :=
  ∃ a n cap, v = .agg #[.int .u64 (m : Int), .int .u64 (k : Int), .slice a n cap] ∧ w.ownsRow B 52 1 (.slice a n cap) ws.length (u64s ws) ∧ ∀ x ∈ ws, x < 18446744073709551616
theorem OwnFil.is {B : Nat} {w : World} {v : Value} {m k : Nat} {ws : List Nat} (h : OwnFil B w v m k ws) : Fil w v m k ws := by
  obtain ⟨a, n, cap, rfl, h1, h2⟩ := h
  exact ⟨a, n, cap, rfl, Sl.of_owns h1, h2⟩
theorem OwnFil.set {B : Nat} {w : World} {v : Value} {m k : Nat} {ws : List Nat} (h : OwnFil B w v m k ws) {a : Addr} (ha : a.block < B) (u : Value) : OwnFil B (w.setCell a u) v m k ws := by
  obtain ⟨p, n, cap, rfl, h1, h2⟩ := h
  exact ⟨p, n, cap, rfl, ownsRow_setCell_below h1 ha u, h2⟩
theorem OwnFil.weaken {B B' : Nat} {w : World} {v : Value} {m k : Nat} {ws : List Nat} (h : OwnFil B w v m k ws) (hB : B' ≤ B) : OwnFil B' w v m k ws := by
  obtain ⟨p, n, cap, rfl, h1, h2⟩ := h
  exact ⟨p, n, cap, rfl, ownsRow_weaken h1 hB, h2⟩
theorem OwnFil.below {B : Nat} {w w' : World} {v : Value} {m k : Nat} {ws : List Nat} (h : OwnFil B w v m k ws) (hb : Below w.heap.size w w') : OwnFil B w' v m k ws := by
  obtain ⟨p, n, cap, rfl, h1, h2⟩ := h
  exact ⟨p, n, cap, rfl, ownsRow_below h1 hb, h2⟩

/-- a *BloomFilter in block f, whose bitset lies in block p; all from block B on -/
def Bf (B : Nat) (w : World) (f p m k L : Nat) (ws : List Nat) (cap : Nat) : Prop :=
  B ≤ f ∧ Blk w f 99 #[.int .u64 (m : Int), .int .u64 (k : Int), .pointer (some ⟨p, 0, none⟩)] ∧ Bs B w p L ws cap ∧ f ≠ p ∧ ∀ g, w.cell? ⟨p, 1, none⟩ = some (.slice (some ⟨g, 0, none⟩) ws.length cap) → g ≠ f
theorem Bf.below {B f p m k L : Nat} {ws : List Nat} {cap : Nat} {w w' : World} (h : Bf B w f p m k L ws cap) (hb : Below w.heap.size w w') : Bf B w' f p m k L ws cap := by
  obtain ⟨h1, h2, h3, h4, h5⟩ := h
  refine ⟨h1, h2.below hb h2.lt, h3.below hb, h4, fun g hg => h5 g ?_⟩
  have hp : p < w.heap.size := by obtain ⟨_, _, _, hk, _⟩ := h3; exact hk.lt
  rw [hb.cell (p := ⟨p, 1, none⟩) hp] at hg
  exact hg
theorem Bf.weaken {B B' f p m k L : Nat} {ws : List Nat} {cap : Nat} {w : World} (h : Bf B w f p m k L ws cap) (hB : B' ≤ B) : Bf B' w f p m k L ws cap := by
  obtain ⟨h1, h2, h3, h4⟩ := h
  exact ⟨by omega, h2, h3.weaken hB, h4⟩

theorem Bs.wordsAt {B p L : Nat} {ws : List Nat} {cap : Nat} {w : World} (h : Bs B w p L ws cap) : ∃ g, w.cell? ⟨p, 1, none⟩ = some (.slice (some ⟨g, 0, none⟩) ws.length cap) ∧ B ≤ g ∧ g < w.heap.size ∧ B ≤ p ∧ p < w.heap.size := by
  obtain ⟨g', h1, _, hk, ho, _⟩ := h
  have := ho.lt g' rfl
  exact ⟨g', hk.cell 1 rfl, this.1, this.2, h1, hk.lt⟩

set_option maxHeartbeats 400000 in
theorem max_any (x y : Int) (w : World) (hx : 0 ≤ x) (hy : 0 ≤ y) (m : Int) (hm : m = max x y) :
    Calls Try.prog 66 #[.int .u64 x, .int .u64 y] w fun e w' => e = .returned (.int .u64 m) ∧ w = w' := by
  by_cases h : y < x
  · obtain rfl : m = x := by omega
    clear hm
    go_enter Try.func66, Try.ntmps66
    go_wp2_with fail
    go_ret
    exact ⟨rfl, rfl⟩
  · obtain rfl : m = y := by omega
    have hd : decide (m < x) = false := by simpa using h
    clear hm
    go_enter Try.func66, Try.ntmps66
    go_wp2_with fail
    go_ret
    exact ⟨rfl, rfl⟩

set_option maxHeartbeats 400000 in
theorem flnew_any (m k : Nat) (w : World) (hm : m ≤ 1000000) (hk : k ≤ 1000000) :
    Calls Try.prog 44 #[.int .u64 (m : Int), .int .u64 (k : Int)] w fun e w' => ∃ f p, e = .returned (.pointer (some ⟨f, 0, none⟩)) ∧
      Bf w.heap.size w' f p (max 1 m) (max 1 k) m (List.replicate ((m + 63) / 64) 0) ((m + 63) / 64) ∧ Below w.heap.size w w' := by
  go_enter Try.func44, Try.ntmps44
  go_wp2_with fail
  refine (max_any _ _ _ (by omega) (by omega) ((max 1 m : Nat) : Int) (by omega)).mono ?_
  rintro e w' ⟨rfl, rfl⟩
  go_wp2_with fail
  refine (max_any _ _ _ (by omega) (by omega) ((max 1 k : Nat) : Int) (by omega)).mono ?_
  rintro e w' ⟨rfl, rfl⟩
  go_wp2_with fail
  refine (new_any m _ hm).mono ?_
  rintro e w1 ⟨p, rfl, hbs, hb1⟩
  have HBS := Lib.hid hbs
  clear hbs
  obtain ⟨M, hM⟩ : ∃ M : Nat, max 1 m = M := ⟨_, rfl⟩
  obtain ⟨K, hK⟩ : ∃ K : Nat, max 1 k = K := ⟨_, rfl⟩
  rw [hM, hK]
  have HM := Lib.hid hM
  have HK := Lib.hid hK
  clear hM hK
  go_wp2_with fail
  go_ret
  rw [HM.out, HK.out]
  have hbs := HBS.out
  have hs := hb1.size
  have hpl : p < w1.heap.size := by obtain ⟨_, _, _, hk, _⟩ := hbs; exact hk.lt
  refine ⟨w1.heap.size, p, rfl, ⟨hs, Blk.new _ _ _, hbs.below ((Below.refl _ _).alloc (Nat.le_refl _) _), by omega, fun g hg e => ?_⟩, hb1.alloc hs _⟩
  obtain ⟨g', _, _, hk, ho, _⟩ := hbs
  have c1 := (hk.alloc (.cells #[.int .u64 (M : Int), .int .u64 (K : Int), .pointer (some ⟨p, 0, none⟩)] 99)).cell 1 rfl
  rw [c1] at hg
  have hgg : g' = g := by injection hg with hg; injection hg with hg; injection hg with hg; injection hg
  have := (ho.lt g' rfl).2
  omega

theorem flcap_any (B f p m k L : Nat) (ws : List Nat) (cap : Nat) (w : World) (hb : Bf B w f p m k L ws cap) :
    Calls Try.prog 61 #[.pointer (some ⟨f, 0, none⟩)] w fun e w' => e = .returned (.int .u64 (m : Int)) ∧ w = w' := by
  have c0 : w.cell? ⟨f, 0, none⟩ = some (.int .u64 (m : Int)) := hb.2.1.cell 0 rfl
  clear hb
  go_enter Try.func61, Try.ntmps61
  go_wp2_with fail
  go_ret
  exact ⟨rfl, rfl⟩
theorem flk_any (B f p m k L : Nat) (ws : List Nat) (cap : Nat) (w : World) (hb : Bf B w f p m k L ws cap) :
    Calls Try.prog 62 #[.pointer (some ⟨f, 0, none⟩)] w fun e w' => e = .returned (.int .u64 (k : Int)) ∧ w = w' := by
  have c0 : w.cell? ⟨f, 1, none⟩ = some (.int .u64 (k : Int)) := hb.2.1.cell 1 rfl
  clear hb
  go_enter Try.func62, Try.ntmps62
  go_wp2_with fail
  go_ret
  exact ⟨rfl, rfl⟩
theorem flset_any (B f p m k L : Nat) (ws : List Nat) (cap : Nat) (w : World) (hb : Bf B w f p m k L ws cap) :
    Calls Try.prog 64 #[.pointer (some ⟨f, 0, none⟩)] w fun e w' => e = .returned (.pointer (some ⟨p, 0, none⟩)) ∧ w = w' := by
  have c0 : w.cell? ⟨f, 2, none⟩ = some (.pointer (some ⟨p, 0, none⟩)) := hb.2.1.cell 2 rfl
  clear hb
  go_enter Try.func64, Try.ntmps64
  go_wp2_with fail
  go_ret
  exact ⟨rfl, rfl⟩

set_option maxHeartbeats 400000 in
theorem told_any (B f p m k L : Nat) (ws : List Nat) (cap : Nat) (w : World) (hb : Bf B w f p m k L ws cap) (hn : ws.length ≤ 1000000) :
    Calls Try.prog 43 #[.pointer (some ⟨f, 0, none⟩)] w fun e w' => ∃ v', e = .returned v' ∧ OwnFil w.heap.size w' v' m k ws ∧ Below w.heap.size w w' := by
  have hb0 : Below w.heap.size w (w.alloc (.cells #[.int .u64 0, .int .u64 0, .slice none 0 0] 39)) := (Below.refl _ _).alloc (Nat.le_refl _) _
  have HB := Lib.hid (hb.below hb0)
  have HBK := Lib.hid (Blk.new w 39 #[.int .u64 0, .int .u64 0, .slice none 0 0])
  have HB0 := Lib.hid hb0
  clear hb hb0
  go_enter Try.func43, Try.ntmps43
  go_wp2_with fail
  refine (flcap_any B f p m k L ws cap _ HB.out).mono ?_
  rintro e w' ⟨rfl, rfl⟩
  go_wp2_with fail
  refine (flk_any B f p m k L ws cap _ HB.out).mono ?_
  rintro e w' ⟨rfl, rfl⟩
  go_wp2_with fail
  refine (flset_any B f p m k L ws cap _ HB.out).mono ?_
  rintro e w' ⟨rfl, rfl⟩
  go_wp2_with fail
  refine (wordsof_any B p L ws cap _ HB.out.2.2.1).mono ?_
  rintro e w' ⟨g, rfl, hown, rfl⟩
  have HS := Lib.hid (Sl.of_owns hown)
  clear hown
  go_wp2_with fail
  refine (words_any _ ws _ HS.out hn).mono ?_
  rintro e w1 ⟨v', rfl, hown, hb1⟩
  obtain ⟨a, n, c, rfl, _⟩ := Sl.of_owns hown
  have HO := Lib.hid hown
  have HX : Hid (∀ x ∈ ws, x < 18446744073709551616) := by obtain ⟨_, _, _, _, _, h⟩ := HB.out.2.2.1; exact h
  have hs := hb1.size
  have bk := HBK.out.below hb1 (by simp)
  have q0 : w1.cell? ⟨w.heap.size, 0, none⟩ = some (.int .u64 0) := bk.cell 0 rfl
  have q1 : w1.cell? ⟨w.heap.size, 1, none⟩ = some (.int .u64 0) := bk.cell 1 rfl
  have q2 : w1.cell? ⟨w.heap.size, 2, none⟩ = some (.slice none 0 0) := bk.cell 2 rfl
  have y0 := bk.free 0
  have y1 := bk.free 1
  have y2 := bk.free 2
  clear bk hown
  go_wp2_with fail
  refine bodyPost_ret (v := .agg #[.int .u64 (m : Int), .int .u64 (k : Int), .slice a n c]) (by simp [results, Try.results43, go_sem, *]) rfl ?_
  have ho : OwnFil (w.heap.size + 1) w1 (.agg #[.int .u64 (m : Int), .int .u64 (k : Int), .slice a n c]) m k ws := ⟨a, n, c, rfl, by have := HO.out; simpa using this, HX.out⟩
  exact ⟨_, rfl, (((ho.set (by simp) _).set (by simp) _).set (by simp) _).weaken (by omega), (((HB0.out.trans (hb1.mono (by simp))).setCell (by simp) _).setCell (by simp) _).setCell (by simp) _⟩
end Go.Proofs.Ytbcbkieebelleaa
