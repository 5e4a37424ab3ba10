/- Walks of impl.BSIsSuperSet and BSIsStrictSuperSet. -/
import Derived.Test.YtbgmkojiklphmaaBsSuper
namespace Go.Proofs.Ytbgmkojiklphmaa
set_option linter.unusedVariables false
open Go.RowKit

theorem sub_bits (xs ys : List Bool) (f g : Nat → Bool) (hf : ∀ j, f j = xs.getD j false) (hg : ∀ j, g j = ys.getD j false) (bb : Bool) (h : bb = true ↔ ∀ j, ys.getD j false = true → xs.getD j false = true) :
    bb = true ↔ ∀ j, g j = true → f j = true := by
  rw [h]
  exact ⟨fun h j => by rw [hf, hg]; exact h j, fun h j => by rw [← hf, ← hg]; exact h j⟩

theorem cnt_bits (xs : List Bool) (ws : List Nat) (h : ∀ j, Bsm.bit ws j = xs.getD j false) : Bsm.cnt (Bsm.bit ws) 0 (64 * ws.length) = (Bsm.pos xs).length :=
  (Bsm.pos_cnt xs (Bsm.bit ws) (64 * ws.length) (fun j _ => h j) (fun j hj => by
    rw [← h]
    unfold Bsm.bit
    rw [List.getD_eq_getElem?_getD, List.getElem?_eq_none (by omega)]
    exact Nat.zero_testBit _)).symm

set_option maxRecDepth 100000 in
set_option maxHeartbeats 4000000 in
theorem bssuper_any (v u : Value) (xs ys : List Bool) (bb : Bool) (hbb : bb = true ↔ ∀ j, ys.getD j false = true → xs.getD j false = true) (w : World) (hv : IsBits w v xs) (hu : IsBits w u ys) (hn : xs.length ≤ 1000) (hn2 : ys.length ≤ 1000) :
    Calls Try.prog 38 #[v, u] w fun e w' => e = .returned (.bool bb) ∧ Below w.heap.size w w' := by
  have HBB := Lib.hid hbb
  clear hbb
  have hv0 := hv
  have hu0 := hu
  obtain ⟨s, rfl, hs⟩ := hv
  obtain ⟨a, n, cap, rfl, _⟩ := hs
  obtain ⟨s2, rfl, hs2⟩ := hu
  obtain ⟨a2, n2, cap2, rfl, _⟩ := hs2
  have hb0 : Below w.heap.size w ((w.alloc (.cells #[.int .u64 (xs.length : Int), .slice a n cap] 25)).alloc (.cells #[.int .u64 (ys.length : Int), .slice a2 n2 cap2] 25)) := ((Below.refl _ _).alloc (Nat.le_refl _) _).alloc (by simp) _
  have HV := Lib.hid (hv0.below rfl hb0)
  have HU := Lib.hid (hu0.below rfl hb0)
  have HB0 := Lib.hid hb0
  obtain ⟨w0, hw0⟩ : ∃ w0, w0 = ((w.alloc (.cells #[.int .u64 (xs.length : Int), .slice a n cap] 25)).alloc (.cells #[.int .u64 (ys.length : Int), .slice a2 n2 cap2] 25)) := ⟨_, rfl⟩
  have k0 : Blk w0 w.heap.size 25 #[.int .u64 (xs.length : Int), .slice a n cap] := by rw [hw0]; exact ((Blk.new w 25 #[.int .u64 (xs.length : Int), .slice a n cap]).alloc _)
  have k1 : Blk w0 (w.heap.size + 1) 25 #[.int .u64 (ys.length : Int), .slice a2 n2 cap2] := by
    have := Blk.new (w.alloc (.cells #[.int .u64 (xs.length : Int), .slice a n cap] 25)) 25 #[.int .u64 (ys.length : Int), .slice a2 n2 cap2]
    rw [World.size_alloc] at this
    rw [hw0]; exact this
  have hz0 : w.heap.size + 1 < w0.heap.size := by rw [hw0]; simp
  rw [← hw0] at HV HU HB0
  clear hb0 hv0 hu0
  go_enter Try.func38, Try.ntmps38
  go_wp2_with fail
  rw [← hw0]
  clear hw0
  have x00 : w0.drew.cell? ⟨w.heap.size, 0, none⟩ = some (.int .u64 (xs.length : Int)) := k0.cell 0 rfl
  have x01 : w0.drew.cell? ⟨w.heap.size, 1, none⟩ = some (.slice a n cap) := k0.cell 1 rfl
  have x02 : w0.drew.cell? ⟨w.heap.size + 1, 0, none⟩ = some (.int .u64 (ys.length : Int)) := k1.cell 0 rfl
  have x03 : w0.drew.cell? ⟨w.heap.size + 1, 1, none⟩ = some (.slice a2 n2 cap2) := k1.cell 1 rfl
  have HV0 := Lib.hid (HV.out.below rfl (Below.refl _ _).drew)
  have HU0 := Lib.hid (HU.out.below rfl (Below.refl _ _).drew)
  have hzd : w0.drew.heap.size = w0.heap.size := rfl
  have HZD := Lib.hid hzd
  clear k0 k1 hzd
  go_region_held3 (fun w' => w'.cell? ⟨w.heap.size, 0, none⟩ = some (.int .u64 (xs.length : Int)) ∧ w'.cell? ⟨w.heap.size, 1, none⟩ = some (.slice a n cap) ∧ w'.cell? ⟨w.heap.size + 1, 0, none⟩ = some (.int .u64 (ys.length : Int)) ∧ w'.cell? ⟨w.heap.size + 1, 1, none⟩ = some (.slice a2 n2 cap2))
    ((first | go_keep | exact ⟨by assumption, by assumption, by assumption, by assumption⟩ | assumption))
    ((first
        | (go_at_call 68; refine (super_any _ _ p1 p2 _ _ ws1 ws2 _ _ _ (HB1.out.below hb2) HB2.out (by omega) (by omega) HWL1.out HWL2.out bb (sub_bits xs ys _ _ HBIT1.out HBIT2.out bb HBB.out)).mono ?_; rintro e w3 ⟨rfl, m, rfl⟩)
        | (go_at_call 53; refine (set64_any _ ys _ (HU0.out.below rfl hb1) (by omega)).mono ?_; rintro e w2 ⟨p2, ws2, rfl, hbs2, hwl2, hbit2, hb2⟩; rw [← hwl2] at hbs2; have HB2 := Lib.hid hbs2; have HWL2 := Lib.hid hwl2; have HBIT2 := Lib.hid hbit2; clear hbs2 hwl2 hbit2; have hz2 : w.heap.size + 1 < w2.heap.size := (by have := hb2.size; simp at *; omega); have x20 : w2.cell? ⟨w.heap.size, 0, none⟩ = some (.int .u64 (xs.length : Int)) := (hb2.cell (p := ⟨w.heap.size, 0, none⟩) (by simp; omega)).trans x10; have x21 : w2.cell? ⟨w.heap.size, 1, none⟩ = some (.slice a n cap) := (hb2.cell (p := ⟨w.heap.size, 1, none⟩) (by simp; omega)).trans x11; have x22 : w2.cell? ⟨w.heap.size + 1, 0, none⟩ = some (.int .u64 (ys.length : Int)) := (hb2.cell (p := ⟨w.heap.size + 1, 0, none⟩) (by simp; omega)).trans x12; have x23 : w2.cell? ⟨w.heap.size + 1, 1, none⟩ = some (.slice a2 n2 cap2) := (hb2.cell (p := ⟨w.heap.size + 1, 1, none⟩) (by simp; omega)).trans x13)
        | (go_at_call 53; refine (set64_any _ xs _ HV0.out (by omega)).mono ?_; rintro e w1 ⟨p1, ws1, rfl, hbs1, hwl1, hbit1, hb1⟩; rw [← hwl1] at hbs1; have HB1 := Lib.hid hbs1; have HWL1 := Lib.hid hwl1; have HBIT1 := Lib.hid hbit1; clear hbs1 hwl1 hbit1; have hz1 : w.heap.size + 1 < w1.heap.size := (by have := hb1.size; have := HZD.out; omega); have x10 : w1.cell? ⟨w.heap.size, 0, none⟩ = some (.int .u64 (xs.length : Int)) := (hb1.cell (p := ⟨w.heap.size, 0, none⟩) (by simp; omega)).trans x00; have x11 : w1.cell? ⟨w.heap.size, 1, none⟩ = some (.slice a n cap) := (hb1.cell (p := ⟨w.heap.size, 1, none⟩) (by simp; omega)).trans x01; have x12 : w1.cell? ⟨w.heap.size + 1, 0, none⟩ = some (.int .u64 (ys.length : Int)) := (hb1.cell (p := ⟨w.heap.size + 1, 0, none⟩) (by simp; omega)).trans x02; have x13 : w1.cell? ⟨w.heap.size + 1, 1, none⟩ = some (.slice a2 n2 cap2) := (hb1.cell (p := ⟨w.heap.size + 1, 1, none⟩) (by simp; omega)).trans x03)))
  go_wp2_with fail
  go_ret
  exact ⟨rfl, below_drewN (HB0.out.drew.trans ((hb1.mono (by have := HZD.out; omega)).trans (hb2.mono (by omega)))) m⟩

set_option maxRecDepth 100000 in
set_option maxHeartbeats 4000000 in
theorem bsstrict_any (v u : Value) (xs ys : List Bool) (bb : Bool) (hbb : bb = true ↔ ∀ j, ys.getD j false = true → xs.getD j false = true) (w : World) (hv : IsBits w v xs) (hu : IsBits w u ys) (hn : xs.length ≤ 1000) (hn2 : ys.length ≤ 1000) :
    Calls Try.prog 39 #[v, u] w fun e w' => e = .returned (.bool (decide ((Bsm.pos ys).length < (Bsm.pos xs).length) && bb)) ∧ Below w.heap.size w w' := by
  have HBB := Lib.hid hbb
  clear hbb
  have hv0 := hv
  have hu0 := hu
  obtain ⟨s, rfl, hs⟩ := hv
  obtain ⟨a, n, cap, rfl, _⟩ := hs
  obtain ⟨s2, rfl, hs2⟩ := hu
  obtain ⟨a2, n2, cap2, rfl, _⟩ := hs2
  have hb0 : Below w.heap.size w ((w.alloc (.cells #[.int .u64 (xs.length : Int), .slice a n cap] 25)).alloc (.cells #[.int .u64 (ys.length : Int), .slice a2 n2 cap2] 25)) := ((Below.refl _ _).alloc (Nat.le_refl _) _).alloc (by simp) _
  have HV := Lib.hid (hv0.below rfl hb0)
  have HU := Lib.hid (hu0.below rfl hb0)
  have HB0 := Lib.hid hb0
  obtain ⟨w0, hw0⟩ : ∃ w0, w0 = ((w.alloc (.cells #[.int .u64 (xs.length : Int), .slice a n cap] 25)).alloc (.cells #[.int .u64 (ys.length : Int), .slice a2 n2 cap2] 25)) := ⟨_, rfl⟩
  have k0 : Blk w0 w.heap.size 25 #[.int .u64 (xs.length : Int), .slice a n cap] := by rw [hw0]; exact ((Blk.new w 25 #[.int .u64 (xs.length : Int), .slice a n cap]).alloc _)
  have k1 : Blk w0 (w.heap.size + 1) 25 #[.int .u64 (ys.length : Int), .slice a2 n2 cap2] := by
    have := Blk.new (w.alloc (.cells #[.int .u64 (xs.length : Int), .slice a n cap] 25)) 25 #[.int .u64 (ys.length : Int), .slice a2 n2 cap2]
    rw [World.size_alloc] at this
    rw [hw0]; exact this
  have hz0 : w.heap.size + 1 < w0.heap.size := by rw [hw0]; simp
  rw [← hw0] at HV HU HB0
  clear hb0 hv0 hu0
  go_enter Try.func39, Try.ntmps39
  go_wp2_with fail
  rw [← hw0]
  clear hw0
  have x00 : w0.drew.cell? ⟨w.heap.size, 0, none⟩ = some (.int .u64 (xs.length : Int)) := k0.cell 0 rfl
  have x01 : w0.drew.cell? ⟨w.heap.size, 1, none⟩ = some (.slice a n cap) := k0.cell 1 rfl
  have x02 : w0.drew.cell? ⟨w.heap.size + 1, 0, none⟩ = some (.int .u64 (ys.length : Int)) := k1.cell 0 rfl
  have x03 : w0.drew.cell? ⟨w.heap.size + 1, 1, none⟩ = some (.slice a2 n2 cap2) := k1.cell 1 rfl
  have HV0 := Lib.hid (HV.out.below rfl (Below.refl _ _).drew)
  have HU0 := Lib.hid (HU.out.below rfl (Below.refl _ _).drew)
  have hzd : w0.drew.heap.size = w0.heap.size := rfl
  have HZD := Lib.hid hzd
  clear k0 k1 hzd
  go_region_held3 (fun w' => w'.cell? ⟨w.heap.size, 0, none⟩ = some (.int .u64 (xs.length : Int)) ∧ w'.cell? ⟨w.heap.size, 1, none⟩ = some (.slice a n cap) ∧ w'.cell? ⟨w.heap.size + 1, 0, none⟩ = some (.int .u64 (ys.length : Int)) ∧ w'.cell? ⟨w.heap.size + 1, 1, none⟩ = some (.slice a2 n2 cap2))
    ((first | go_keep | exact ⟨by assumption, by assumption, by assumption, by assumption⟩ | assumption))
    ((first
        | (go_at_call 69; refine (strict_any _ _ p1 p2 _ _ ws1 ws2 _ _ _ (HB1.out.below hb2) HB2.out (by omega) (by omega) HWL1.out HWL2.out bb (sub_bits xs ys _ _ HBIT1.out HBIT2.out bb HBB.out)).mono ?_; rintro e w3 ⟨rfl, m, rfl⟩)
        | (go_at_call 53; refine (set64_any _ ys _ (HU0.out.below rfl hb1) (by omega)).mono ?_; rintro e w2 ⟨p2, ws2, rfl, hbs2, hwl2, hbit2, hb2⟩; rw [← hwl2] at hbs2; have HB2 := Lib.hid hbs2; have HWL2 := Lib.hid hwl2; have HBIT2 := Lib.hid hbit2; clear hbs2 hwl2 hbit2; have hz2 : w.heap.size + 1 < w2.heap.size := (by have := hb2.size; simp at *; omega); have x20 : w2.cell? ⟨w.heap.size, 0, none⟩ = some (.int .u64 (xs.length : Int)) := (hb2.cell (p := ⟨w.heap.size, 0, none⟩) (by simp; omega)).trans x10; have x21 : w2.cell? ⟨w.heap.size, 1, none⟩ = some (.slice a n cap) := (hb2.cell (p := ⟨w.heap.size, 1, none⟩) (by simp; omega)).trans x11; have x22 : w2.cell? ⟨w.heap.size + 1, 0, none⟩ = some (.int .u64 (ys.length : Int)) := (hb2.cell (p := ⟨w.heap.size + 1, 0, none⟩) (by simp; omega)).trans x12; have x23 : w2.cell? ⟨w.heap.size + 1, 1, none⟩ = some (.slice a2 n2 cap2) := (hb2.cell (p := ⟨w.heap.size + 1, 1, none⟩) (by simp; omega)).trans x13)
        | (go_at_call 53; refine (set64_any _ xs _ HV0.out (by omega)).mono ?_; rintro e w1 ⟨p1, ws1, rfl, hbs1, hwl1, hbit1, hb1⟩; rw [← hwl1] at hbs1; have HB1 := Lib.hid hbs1; have HWL1 := Lib.hid hwl1; have HBIT1 := Lib.hid hbit1; clear hbs1 hwl1 hbit1; have hz1 : w.heap.size + 1 < w1.heap.size := (by have := hb1.size; have := HZD.out; omega); have x10 : w1.cell? ⟨w.heap.size, 0, none⟩ = some (.int .u64 (xs.length : Int)) := (hb1.cell (p := ⟨w.heap.size, 0, none⟩) (by simp; omega)).trans x00; have x11 : w1.cell? ⟨w.heap.size, 1, none⟩ = some (.slice a n cap) := (hb1.cell (p := ⟨w.heap.size, 1, none⟩) (by simp; omega)).trans x01; have x12 : w1.cell? ⟨w.heap.size + 1, 0, none⟩ = some (.int .u64 (ys.length : Int)) := (hb1.cell (p := ⟨w.heap.size + 1, 0, none⟩) (by simp; omega)).trans x02; have x13 : w1.cell? ⟨w.heap.size + 1, 1, none⟩ = some (.slice a2 n2 cap2) := (hb1.cell (p := ⟨w.heap.size + 1, 1, none⟩) (by simp; omega)).trans x03)))
  go_wp2_with fail
  go_ret
  exact ⟨ret_bool (by rw [cnt_bits ys ws2 HBIT2.out, cnt_bits xs ws1 HBIT1.out]), below_drewN (HB0.out.drew.trans ((hb1.mono (by have := HZD.out; omega)).trans (hb2.mono (by omega)))) m⟩
end Go.Proofs.Ytbgmkojiklphmaa
