/- Walks of baseHashes and location: they depend on the bytes alone. -/
import Derived.Test.YtbcbkieebelleaaBlSum256
import Derived.Outline
namespace Go.Proofs.Ytbcbkieebelleaa
set_option linter.unusedVariables false
open Go.RowKit

set_option maxRecDepth 100000 in
set_option maxHeartbeats 4000000 in
theorem base_ex (bs : List Int) (hn : bs.length ≤ 100000) : ∃ r1 r2 r3 r4 : Int, ∀ (n cap : Nat) (a : Option Addr) (w : World), By w.heap.size w a bs → n = bs.length → n ≤ cap → cap ≤ 9223372036854775807 → (0 < n → ∃ b o, a = some ⟨b, o, none⟩) →
    Calls Try.prog 70 #[.slice a n cap] w fun e w' => e = .returned (.agg #[.int .u64 r1, .int .u64 r2, .int .u64 r3, .int .u64 r4]) ∧ Below w.heap.size w w' := by
  obtain ⟨r1, r2, r3, r4, hS⟩ := sum256_ex bs hn
  refine ⟨r1, r2, r3, r4, ?_⟩
  intro n cap a w hby hnl hcap hcm han
  subst hnl
  have hb2 : Below w.heap.size w ((w.alloc (.cells #[.int .u64 0, .int .u64 0, .int .u64 0, .int .u64 0] 102)).alloc (.cells #[.int .u64 0, .int .u64 0] 116)) := ((Below.refl _ _).alloc (Nat.le_refl _) _).alloc (by simp) _
  have hz2 : ((w.alloc (.cells #[.int .u64 0, .int .u64 0, .int .u64 0, .int .u64 0] 102)).alloc (.cells #[.int .u64 0, .int .u64 0] 116)).heap.size = w.heap.size + 2 := by simp
  have hdg : Dg ((w.alloc (.cells #[.int .u64 0, .int .u64 0, .int .u64 0, .int .u64 0] 102)).alloc (.cells #[.int .u64 0, .int .u64 0] 116)) (w.heap.size + 1) 0 0 := by
    have h := Blk.new (w.alloc (.cells #[.int .u64 0, .int .u64 0, .int .u64 0, .int .u64 0] 102)) 116 #[.int .u64 0, .int .u64 0]
    rw [show (w.alloc (.cells #[.int .u64 0, .int .u64 0, .int .u64 0, .int .u64 0] 102)).heap.size = w.heap.size + 1 by simp] at h
    exact h
  have hbk := (Blk.new w 102 #[.int .u64 0, .int .u64 0, .int .u64 0, .int .u64 0]).alloc (.cells #[.int .u64 0, .int .u64 0] 116)
  have hby2 : By (w.heap.size + 1) ((w.alloc (.cells #[.int .u64 0, .int .u64 0, .int .u64 0, .int .u64 0] 102)).alloc (.cells #[.int .u64 0, .int .u64 0] 116)) a bs := by
    intro h0
    obtain ⟨b, o, e1, e2, e3, e4⟩ := hby h0
    exact ⟨b, o, e1, by omega, by rw [hz2]; omega, fun i v hv => (hb2.cell (p := ⟨b, o + i, none⟩) e2).trans (e4 i v hv)⟩
  have HC := Lib.hid (hS (w.heap.size + 1) (w.heap.size + 1) cap 0 0 a _ hdg hby2 (Nat.le_refl _) hcap hcm han)
  have HB2 := Lib.hid hb2
  have HBK := Lib.hid hbk
  have HZ2 := Lib.hid hz2
  clear hS hby hcap hcm han hb2 hz2 hdg hbk hby2
  go_enter Try.func70, Try.ntmps70
  go_wp2_with fail
  refine HC.out.mono ?_
  rintro e w1 ⟨rfl, hb1, hz1⟩
  have hbk1 := HBK.out.below hb1 (by omega)
  have c0 : w1.cell? ⟨w.heap.size, 0, none⟩ = some (.int .u64 0) := hbk1.cell 0 rfl
  have c1 : w1.cell? ⟨w.heap.size, 1, none⟩ = some (.int .u64 0) := hbk1.cell 1 rfl
  have c2 : w1.cell? ⟨w.heap.size, 2, none⟩ = some (.int .u64 0) := hbk1.cell 2 rfl
  have c3 : w1.cell? ⟨w.heap.size, 3, none⟩ = some (.int .u64 0) := hbk1.cell 3 rfl
  have f0 := hbk1.free 0
  have f1 := hbk1.free 1
  have f2 := hbk1.free 2
  have f3 := hbk1.free 3
  have n0 := hbk1.lt
  have HB1 : Hid (Below w.heap.size w w1) := Lib.hid (HB2.out.trans (hb1.mono (by omega)))
  clear hb1 hz1 hbk1
  go_wp2_with fail
  refine bodyPost_ret (v := .agg #[.int .u64 r1, .int .u64 r2, .int .u64 r3, .int .u64 r4]) (by simp [results, Try.results70, go_sem, *]) rfl ?_
  exact ⟨rfl, (((HB1.out.setCell (Nat.le_refl _) _).setCell (Nat.le_refl _) _).setCell (Nat.le_refl _) _).setCell (Nat.le_refl _) _⟩

set_option maxRecDepth 100000 in
set_option maxHeartbeats 4000000 in
theorem loc00 (r1 r2 r3 r4 : Int) (i : Nat) (hi : i ≤ 100000) (ha : i % 2 = 0) (hc : ((i + 0) % 4) / 2 = 0) : ∃ L : Int, (0 ≤ L ∧ L < 18446744073709551616) ∧ ∀ w : World,
    Calls Try.prog 71 #[.agg #[.int .u64 r1, .int .u64 r2, .int .u64 r3, .int .u64 r4], .int .u64 (i : Int)] w fun e w' => e = .returned (.int .u64 L) ∧ Below w.heap.size w w' := by
  obtain ⟨t, ht⟩ : ∃ t : Nat, (i + 0) % 4 = t := ⟨_, rfl⟩
  have x0 : IntKind.u64.wrap (i : Int) = (i : Int) := by rw [IntKind.wrap_u64]; omega
  have x1 : (i : Int).tmod 2 = 0 := by rw [Int.tmod_eq_emod_of_nonneg (by omega)]; omega
  have x2 : (i : Int).tmod 4 = (t : Int) := by rw [Int.tmod_eq_emod_of_nonneg (by omega)]; omega
  have x3 : (t : Int).tdiv 2 = 0 := by rw [Int.tdiv_eq_ediv_of_nonneg (by omega)]; omega
  clear ha hc ht
  apply Exists.intro
  constructor
  rotate_left
  · intro w
    have hbx : Below w.heap.size w (w.alloc (.cells #[.int .u64 r1, .int .u64 r2, .int .u64 r3, .int .u64 r4] 102)) := (Below.refl _ _).alloc (Nat.le_refl _) _
    have hbk := Blk.new w 102 #[.int .u64 r1, .int .u64 r2, .int .u64 r3, .int .u64 r4]
    have e0 := hbk.cell 0 rfl
    have e1 := hbk.cell 1 rfl
    have e2 := hbk.cell 2 rfl
    have e3 := hbk.cell 3 rfl
    have HBX := Lib.hid hbx
    clear hbx hbk
    go_enter Try.func71, Try.ntmps71
    go_wp2_with fail
    go_quiet (fail)
    go_wp2_with fail
    go_ret
    exact ⟨rfl, below_drewN HBX.out _⟩
  · rw [IntKind.wrap_u64]; omega
set_option maxRecDepth 100000 in
set_option maxHeartbeats 4000000 in
theorem loc01 (r1 r2 r3 r4 : Int) (i : Nat) (hi : i ≤ 100000) (ha : i % 2 = 0) (hc : ((i + 0) % 4) / 2 = 1) : ∃ L : Int, (0 ≤ L ∧ L < 18446744073709551616) ∧ ∀ w : World,
    Calls Try.prog 71 #[.agg #[.int .u64 r1, .int .u64 r2, .int .u64 r3, .int .u64 r4], .int .u64 (i : Int)] w fun e w' => e = .returned (.int .u64 L) ∧ Below w.heap.size w w' := by
  obtain ⟨t, ht⟩ : ∃ t : Nat, (i + 0) % 4 = t := ⟨_, rfl⟩
  have x0 : IntKind.u64.wrap (i : Int) = (i : Int) := by rw [IntKind.wrap_u64]; omega
  have x1 : (i : Int).tmod 2 = 0 := by rw [Int.tmod_eq_emod_of_nonneg (by omega)]; omega
  have x2 : (i : Int).tmod 4 = (t : Int) := by rw [Int.tmod_eq_emod_of_nonneg (by omega)]; omega
  have x3 : (t : Int).tdiv 2 = 1 := by rw [Int.tdiv_eq_ediv_of_nonneg (by omega)]; omega
  clear ha hc ht
  apply Exists.intro
  constructor
  rotate_left
  · intro w
    have hbx : Below w.heap.size w (w.alloc (.cells #[.int .u64 r1, .int .u64 r2, .int .u64 r3, .int .u64 r4] 102)) := (Below.refl _ _).alloc (Nat.le_refl _) _
    have hbk := Blk.new w 102 #[.int .u64 r1, .int .u64 r2, .int .u64 r3, .int .u64 r4]
    have e0 := hbk.cell 0 rfl
    have e1 := hbk.cell 1 rfl
    have e2 := hbk.cell 2 rfl
    have e3 := hbk.cell 3 rfl
    have HBX := Lib.hid hbx
    clear hbx hbk
    go_enter Try.func71, Try.ntmps71
    go_wp2_with fail
    go_quiet (fail)
    go_wp2_with fail
    go_ret
    exact ⟨rfl, below_drewN HBX.out _⟩
  · rw [IntKind.wrap_u64]; omega
set_option maxRecDepth 100000 in
set_option maxHeartbeats 4000000 in
theorem loc10 (r1 r2 r3 r4 : Int) (i : Nat) (hi : i ≤ 100000) (ha : i % 2 = 1) (hc : ((i + 1) % 4) / 2 = 0) : ∃ L : Int, (0 ≤ L ∧ L < 18446744073709551616) ∧ ∀ w : World,
    Calls Try.prog 71 #[.agg #[.int .u64 r1, .int .u64 r2, .int .u64 r3, .int .u64 r4], .int .u64 (i : Int)] w fun e w' => e = .returned (.int .u64 L) ∧ Below w.heap.size w w' := by
  obtain ⟨t, ht⟩ : ∃ t : Nat, (i + 1) % 4 = t := ⟨_, rfl⟩
  have x0 : IntKind.u64.wrap ((i : Int) + 1) = ((i : Int) + 1) := by rw [IntKind.wrap_u64]; omega
  have x1 : (i : Int).tmod 2 = 1 := by rw [Int.tmod_eq_emod_of_nonneg (by omega)]; omega
  have x2 : ((i : Int) + 1).tmod 4 = (t : Int) := by rw [Int.tmod_eq_emod_of_nonneg (by omega)]; omega
  have x3 : (t : Int).tdiv 2 = 0 := by rw [Int.tdiv_eq_ediv_of_nonneg (by omega)]; omega
  clear ha hc ht
  apply Exists.intro
  constructor
  rotate_left
  · intro w
    have hbx : Below w.heap.size w (w.alloc (.cells #[.int .u64 r1, .int .u64 r2, .int .u64 r3, .int .u64 r4] 102)) := (Below.refl _ _).alloc (Nat.le_refl _) _
    have hbk := Blk.new w 102 #[.int .u64 r1, .int .u64 r2, .int .u64 r3, .int .u64 r4]
    have e0 := hbk.cell 0 rfl
    have e1 := hbk.cell 1 rfl
    have e2 := hbk.cell 2 rfl
    have e3 := hbk.cell 3 rfl
    have HBX := Lib.hid hbx
    clear hbx hbk
    go_enter Try.func71, Try.ntmps71
    go_wp2_with fail
    go_quiet (fail)
    go_wp2_with fail
    go_ret
    exact ⟨rfl, below_drewN HBX.out _⟩
  · rw [IntKind.wrap_u64]; omega
set_option maxRecDepth 100000 in
set_option maxHeartbeats 4000000 in
theorem loc11 (r1 r2 r3 r4 : Int) (i : Nat) (hi : i ≤ 100000) (ha : i % 2 = 1) (hc : ((i + 1) % 4) / 2 = 1) : ∃ L : Int, (0 ≤ L ∧ L < 18446744073709551616) ∧ ∀ w : World,
    Calls Try.prog 71 #[.agg #[.int .u64 r1, .int .u64 r2, .int .u64 r3, .int .u64 r4], .int .u64 (i : Int)] w fun e w' => e = .returned (.int .u64 L) ∧ Below w.heap.size w w' := by
  obtain ⟨t, ht⟩ : ∃ t : Nat, (i + 1) % 4 = t := ⟨_, rfl⟩
  have x0 : IntKind.u64.wrap ((i : Int) + 1) = ((i : Int) + 1) := by rw [IntKind.wrap_u64]; omega
  have x1 : (i : Int).tmod 2 = 1 := by rw [Int.tmod_eq_emod_of_nonneg (by omega)]; omega
  have x2 : ((i : Int) + 1).tmod 4 = (t : Int) := by rw [Int.tmod_eq_emod_of_nonneg (by omega)]; omega
  have x3 : (t : Int).tdiv 2 = 1 := by rw [Int.tdiv_eq_ediv_of_nonneg (by omega)]; omega
  clear ha hc ht
  apply Exists.intro
  constructor
  rotate_left
  · intro w
    have hbx : Below w.heap.size w (w.alloc (.cells #[.int .u64 r1, .int .u64 r2, .int .u64 r3, .int .u64 r4] 102)) := (Below.refl _ _).alloc (Nat.le_refl _) _
    have hbk := Blk.new w 102 #[.int .u64 r1, .int .u64 r2, .int .u64 r3, .int .u64 r4]
    have e0 := hbk.cell 0 rfl
    have e1 := hbk.cell 1 rfl
    have e2 := hbk.cell 2 rfl
    have e3 := hbk.cell 3 rfl
    have HBX := Lib.hid hbx
    clear hbx hbk
    go_enter Try.func71, Try.ntmps71
    go_wp2_with fail
    go_quiet (fail)
    go_wp2_with fail
    go_ret
    exact ⟨rfl, below_drewN HBX.out _⟩
  · rw [IntKind.wrap_u64]; omega
theorem loc_ex (r1 r2 r3 r4 : Int) (i : Nat) (hi : i ≤ 100000) : ∃ L : Int, (0 ≤ L ∧ L < 18446744073709551616) ∧ ∀ w : World,
    Calls Try.prog 71 #[.agg #[.int .u64 r1, .int .u64 r2, .int .u64 r3, .int .u64 r4], .int .u64 (i : Int)] w fun e w' => e = .returned (.int .u64 L) ∧ Below w.heap.size w w' := by
  by_cases ha : i % 2 = 0
  · by_cases hc : ((i + 0) % 4) / 2 = 0
    · exact loc00 r1 r2 r3 r4 i hi ha hc
    · exact loc01 r1 r2 r3 r4 i hi ha (by omega)
  · by_cases hc : ((i + 1) % 4) / 2 = 0
    · exact loc10 r1 r2 r3 r4 i hi (by omega) hc
    · exact loc11 r1 r2 r3 r4 i hi (by omega) (by omega)

/-- the locations of these bytes: one list for all -/
theorem locs_ex (bs : List Int) (hn : bs.length ≤ 100000) : ∃ (r1 r2 r3 r4 : Int) (L : Nat → Nat), (∀ i, i ≤ 100000 → L i < 18446744073709551616 ∧ ∀ w : World,
    Calls Try.prog 71 #[.agg #[.int .u64 r1, .int .u64 r2, .int .u64 r3, .int .u64 r4], .int .u64 (i : Int)] w fun e w' => e = .returned (.int .u64 (L i : Int)) ∧ Below w.heap.size w w') ∧
    ∀ (n cap : Nat) (a : Option Addr) (w : World), By w.heap.size w a bs → n = bs.length → n ≤ cap → cap ≤ 9223372036854775807 → (0 < n → ∃ b o, a = some ⟨b, o, none⟩) →
    Calls Try.prog 70 #[.slice a n cap] w fun e w' => e = .returned (.agg #[.int .u64 r1, .int .u64 r2, .int .u64 r3, .int .u64 r4]) ∧ Below w.heap.size w w' := by
  obtain ⟨r1, r2, r3, r4, hb⟩ := base_ex bs hn
  have h := fun (i : Nat) (hi : i ≤ 100000) => loc_ex r1 r2 r3 r4 i hi
  refine ⟨r1, r2, r3, r4, fun i => if hi : i ≤ 100000 then (Classical.choose (h i hi)).toNat else 0, fun i hi => ?_, hb⟩
  have hs := Classical.choose_spec (h i hi)
  have e : ((Classical.choose (h i hi)).toNat : Int) = Classical.choose (h i hi) := Int.toNat_of_nonneg hs.1.1
  simp only [hi, dite_true]
  refine ⟨by omega, fun w => ?_⟩
  rw [e]
  exact hs.2 w
end Go.Proofs.Ytbcbkieebelleaa
