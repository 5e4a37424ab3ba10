/- Walks of impl.BSIntersection, BSInPlaceIntersection and BSIntersectionCardinality. -/
import Derived.Test.YtbgmkojiklphmaaBsInter
namespace Go.Proofs.Ytbgmkojiklphmaa
set_option linter.unusedVariables false
open Go.RowKit

theorem Bsm.posn_more (bs : List Bool) (m : Nat) : Bsm.posn bs (bs.length + m) = Bsm.pos bs := by
  induction m with
  | zero => rfl
  | succ m ih =>
    rw [← Nat.add_assoc]
    simp only [Bsm.posn]
    rw [ih, Bsm.getD_out bs (bs.length + m) (by omega)]
    simp
theorem Bsm.pos_congr (bs cs : List Bool) (h : ∀ j, bs.getD j false = cs.getD j false) : Bsm.pos bs = Bsm.pos cs := by
  rw [← Bsm.posn_more bs cs.length, ← Bsm.posn_more cs bs.length, Nat.add_comm cs.length]
  exact Bsm.posn_congr _ _ _ fun j _ => h j
theorem Bsm.posn_cnt (bs : List Bool) (i : Nat) : (Bsm.posn bs i).length = Bsm.cnt (fun j => bs.getD j false) 0 i := by
  induction i with
  | zero => rfl
  | succ i ih =>
    simp only [Bsm.posn, List.length_append, ih]
    by_cases h : bs.getD i false = true
    · rw [if_pos h, Bsm.cnt_yes _ _ _ (by simpa using h)]; rfl
    · rw [if_neg h, Bsm.cnt_no _ _ _ (by simpa using h)]; rfl
theorem Bsm.cnt_ends (f : Nat → Bool) (a b : Nat) (ha : ∀ j, a ≤ j → f j = false) (hb : ∀ j, b ≤ j → f j = false) : Bsm.cnt f 0 a = Bsm.cnt f 0 b := by
  by_cases h : a ≤ b
  · exact (Bsm.cnt_more f 0 a b h (fun j h1 h2 => by rw [Nat.zero_add]; exact ha j h1)).symm
  · exact Bsm.cnt_more f 0 b a (by omega) (fun j h1 h2 => by rw [Nat.zero_add]; exact hb j h1)
/-- a count of words whose bits are those of a list -/
theorem Bsm.pos_cnt (cs : List Bool) (g : Nat → Bool) (n : Nat) (h1 : ∀ j, j < n → g j = cs.getD j false) (h2 : ∀ j, n ≤ j → cs.getD j false = false) : (Bsm.pos cs).length = Bsm.cnt g 0 n := by
  unfold Bsm.pos
  rw [Bsm.posn_cnt, Bsm.cnt_ends (fun j => cs.getD j false) cs.length n (fun j hj => Bsm.getD_out cs j hj) h2]
  exact Bsm.cnt_congr _ _ _ _ _ (fun j hj => by rw [Nat.zero_add]; exact (h1 j hj).symm)
theorem Bsm.pos_none (cs : List Bool) (h : ∀ j, cs.getD j false = false) : (Bsm.pos cs).length = 0 := by
  rw [Bsm.pos_cnt cs (fun _ => false) 0 (fun j hj => absurd hj (Nat.not_lt_zero _)) (fun j _ => h j)]; rfl

theorem inter_any (B B2 p p2 L L2 : Nat) (ws ws2 : List Nat) (cap cap2 : Nat) (w : World) (hb : Bs B w p L ws cap) (hb2 : Bs B2 w p2 L2 ws2 cap2) (hL : L ≤ 10000) (hL2 : L2 ≤ 10000)
    (hwl : ws.length = (L + 63) / 64) (hwl2 : ws2.length = (L2 + 63) / 64) :
    Calls Try.prog 76 #[.pointer (some ⟨p, 0, none⟩), .pointer (some ⟨p2, 0, none⟩)] w fun e w' => ∃ r ws' cap', e = .returned (.pointer (some ⟨r, 0, none⟩)) ∧
      Bs w.heap.size w' r (min L L2) ws' cap' ∧ min L L2 ≤ 64 * ws'.length ∧ (∀ j, j < min L L2 → Bsm.bit ws' j = (Bsm.bit ws j && Bsm.bit ws2 j)) ∧ Below w.heap.size w w' := by
  by_cases h : L ≤ L2
  · rw [Nat.min_eq_left h]
    exact (inter_core ⟨p, 0, none⟩ ⟨p2, 0, none⟩ B B2 p p2 L L2 ws ws2 cap cap2 w hb hb2 (by omega) h hwl hwl2 (sort_le B B2 p p2 L L2 ws ws2 cap cap2 w hb hb2 (by omega) (by omega) h)).mono
      fun _ _ ⟨r, ws', he, h1, h2, h3, h4⟩ => ⟨r, ws', _, he, h1, by omega, h3, h4⟩
  · rw [Nat.min_eq_right (by omega)]
    exact (inter_core ⟨p, 0, none⟩ ⟨p2, 0, none⟩ B2 B p2 p L2 L ws2 ws cap2 cap w hb2 hb (by omega) (by omega) hwl2 hwl (sort_gt B B2 p p2 L L2 ws ws2 cap cap2 w hb hb2 (by omega) (by omega) (by omega))).mono
      fun _ _ ⟨r, ws', he, h1, h2, h3, h4⟩ => ⟨r, ws', _, he, h1, by omega, fun j hj => (h3 j hj).trans (Bool.and_comm _ _), h4⟩

set_option maxRecDepth 100000 in
set_option maxHeartbeats 400000 in
theorem intercard_zero (B B2 p p2 L L2 : Nat) (ws ws2 : List Nat) (cap cap2 : Nat) (w : World) (hb : Bs B w p L ws cap) (hb2 : Bs B2 w p2 L2 ws2 cap2) (hL : L ≤ 10000) (hL2 : L2 ≤ 10000) (h0 : L = 0 ∨ L2 = 0) :
    Calls Try.prog 78 #[.pointer (some ⟨p, 0, none⟩), .pointer (some ⟨p2, 0, none⟩)] w fun e w' => e = .returned (.int .u64 (0 : Nat)) ∧ ∃ m, w' = w.drewN m := by
  obtain ⟨g, c0, _⟩ := hb.sl
  obtain ⟨g2, d0, _⟩ := hb2.sl
  clear hb hb2
  by_cases hz : L = 0
  · have e1 : ((L : Int) == 0) = true := by simp; omega
    clear hz h0
    go_enter Try.func78, Try.ntmps78
    go_wp2_with fail
    refine (notnull_any _ _).mono ?_
    rintro e w' ⟨rfl, rfl⟩
    go_wp2_with fail
    refine (notnull_any _ _).mono ?_
    rintro e w' ⟨rfl, rfl⟩
    go_wp2_with fail
    go_ret
    exact ⟨rfl, 0, rfl⟩
  · have hz2 : L2 = 0 := by omega
    have e1 : ((L : Int) == 0) = false := by simp; omega
    have e2 : ((L2 : Int) == 0) = true := by simp; omega
    clear hz hz2 h0
    go_enter Try.func78, Try.ntmps78
    go_wp2_with fail
    refine (notnull_any _ _).mono ?_
    rintro e w' ⟨rfl, rfl⟩
    go_wp2_with fail
    refine (notnull_any _ _).mono ?_
    rintro e w' ⟨rfl, rfl⟩
    go_wp2_with fail
    go_ret
    exact ⟨rfl, 0, rfl⟩

theorem intercard_any (B B2 p p2 L L2 : Nat) (ws ws2 : List Nat) (cap cap2 : Nat) (w : World) (hb : Bs B w p L ws cap) (hb2 : Bs B2 w p2 L2 ws2 cap2) (hL : L ≤ 10000) (hL2 : L2 ≤ 10000)
    (hwl : ws.length = (L + 63) / 64) (hwl2 : ws2.length = (L2 + 63) / 64) (cs : List Bool) (hcs : ∀ j, cs.getD j false = (Bsm.bit ws j && Bsm.bit ws2 j)) :
    Calls Try.prog 78 #[.pointer (some ⟨p, 0, none⟩), .pointer (some ⟨p2, 0, none⟩)] w fun e w' => e = .returned (.int .u64 ((Bsm.pos cs).length : Nat)) ∧ ∃ m, w' = w.drewN m := by
  have hout : ∀ (zs : List Nat) (j : Nat), 64 * zs.length ≤ j → Bsm.bit zs j = false := by
    intro zs j hj
    unfold Bsm.bit
    rw [List.getD_eq_getElem?_getD, List.getElem?_eq_none (by omega)]
    exact Nat.zero_testBit _
  by_cases h0 : L = 0 ∨ L2 = 0
  · rw [Bsm.pos_none cs fun j => ?_]
    · exact intercard_zero B B2 p p2 L L2 ws ws2 cap cap2 w hb hb2 hL hL2 h0
    · rw [hcs]
      rcases h0 with h | h
      · rw [hout ws j (by omega)]; rfl
      · rw [hout ws2 j (by omega)]; exact Bool.and_false _
  · obtain ⟨g, c0, _⟩ := hb.sl
    obtain ⟨g2, d0, _⟩ := hb2.sl
    by_cases h : L ≤ L2
    · have hl : ws.length ≤ ws2.length := by omega
      rw [Bsm.pos_cnt cs (Bsm.bit (List.zipWith (fun x y => x &&& y) ws ws2)) (64 * ws.length)
        (fun j hj => by rw [hcs, Bsm.bit_zip _ (fun x y => x && y) (fun x y j => Nat.testBit_and x y j) ws ws2 hl j hj]) (fun j hj => by rw [hcs, hout ws j hj]; rfl)]
      exact intercard_core ⟨p, 0, none⟩ ⟨p2, 0, none⟩ B B2 p p2 L L2 ws ws2 cap cap2 w hb hb2 hL h (by omega) hwl hwl2 L L2 (by omega) (by omega) hL hL2 c0 d0 rfl rfl
        (fun nq => sort_le B B2 p p2 L L2 ws ws2 cap cap2 _ (hb.drewN nq) (hb2.drewN nq) (by omega) (by omega) h)
    · have hl : ws2.length ≤ ws.length := by omega
      rw [Bsm.pos_cnt cs (Bsm.bit (List.zipWith (fun x y => x &&& y) ws2 ws)) (64 * ws2.length)
        (fun j hj => by rw [hcs, Bsm.bit_zip _ (fun x y => x && y) (fun x y j => Nat.testBit_and x y j) ws2 ws hl j hj, Bool.and_comm]) (fun j hj => by rw [hcs, hout ws2 j hj]; exact Bool.and_false _)]
      exact intercard_core ⟨p, 0, none⟩ ⟨p2, 0, none⟩ B2 B p2 p L2 L ws2 ws cap2 cap w hb2 hb hL2 (by omega) (by omega) hwl2 hwl L L2 (by omega) (by omega) hL hL2 c0 d0 rfl rfl
        (fun nq => sort_gt B B2 p p2 L L2 ws ws2 cap cap2 _ (hb.drewN nq) (hb2.drewN nq) (by omega) (by omega) (by omega))

set_option maxRecDepth 100000 in
set_option maxHeartbeats 4000000 in
theorem bsintercard_any (v u : Value) (xs ys : List Bool)  (w : World) (hv : IsBits w v xs) (hu : IsBits w u ys) (hn : xs.length ≤ 1000) (hn2 : ys.length ≤ 1000) :
    Calls Try.prog 49 #[v, u] w fun e w' => e = .returned (.int .u64 ((Bsm.pos (twos 1 xs ys)).length : Nat)) ∧ Below w.heap.size w w' := by
  have hv0 := hv
  have hu0 := hu
  obtain ⟨s, rfl, hs⟩ := hv
  obtain ⟨a, n, cap, rfl, _⟩ := hs
  obtain ⟨s2, rfl, hs2⟩ := hu
  obtain ⟨a2, n2, cap2, rfl, _⟩ := hs2
  have hb0 : Below w.heap.size w ((w.alloc (.cells #[.int .u64 (xs.length : Int), .slice a n cap] 25)).alloc (.cells #[.int .u64 (ys.length : Int), .slice a2 n2 cap2] 25)) := ((Below.refl _ _).alloc (Nat.le_refl _) _).alloc (by simp) _
  have HV := Lib.hid (hv0.below rfl hb0)
  have HU := Lib.hid (hu0.below rfl hb0)
  have HB0 := Lib.hid hb0
  obtain ⟨w0, hw0⟩ : ∃ w0, w0 = ((w.alloc (.cells #[.int .u64 (xs.length : Int), .slice a n cap] 25)).alloc (.cells #[.int .u64 (ys.length : Int), .slice a2 n2 cap2] 25)) := ⟨_, rfl⟩
  have k0 : Blk w0 w.heap.size 25 #[.int .u64 (xs.length : Int), .slice a n cap] := by rw [hw0]; exact ((Blk.new w 25 #[.int .u64 (xs.length : Int), .slice a n cap]).alloc _)
  have k1 : Blk w0 (w.heap.size + 1) 25 #[.int .u64 (ys.length : Int), .slice a2 n2 cap2] := by
    have := Blk.new (w.alloc (.cells #[.int .u64 (xs.length : Int), .slice a n cap] 25)) 25 #[.int .u64 (ys.length : Int), .slice a2 n2 cap2]
    rw [World.size_alloc] at this
    rw [hw0]; exact this
  have hz0 : w.heap.size + 1 < w0.heap.size := by rw [hw0]; simp
  rw [← hw0] at HV HU HB0
  clear hb0 hv0 hu0
  go_enter Try.func49, Try.ntmps49
  go_wp2_with fail
  rw [← hw0]
  clear hw0
  have x00 : w0.drew.cell? ⟨w.heap.size, 0, none⟩ = some (.int .u64 (xs.length : Int)) := k0.cell 0 rfl
  have x01 : w0.drew.cell? ⟨w.heap.size, 1, none⟩ = some (.slice a n cap) := k0.cell 1 rfl
  have x02 : w0.drew.cell? ⟨w.heap.size + 1, 0, none⟩ = some (.int .u64 (ys.length : Int)) := k1.cell 0 rfl
  have x03 : w0.drew.cell? ⟨w.heap.size + 1, 1, none⟩ = some (.slice a2 n2 cap2) := k1.cell 1 rfl
  have HV0 := Lib.hid (HV.out.below rfl (Below.refl _ _).drew)
  have HU0 := Lib.hid (HU.out.below rfl (Below.refl _ _).drew)
  have hzd : w0.drew.heap.size = w0.heap.size := rfl
  have HZD := Lib.hid hzd
  clear k0 k1 hzd
  go_region_held3 (fun w' => w'.cell? ⟨w.heap.size, 0, none⟩ = some (.int .u64 (xs.length : Int)) ∧ w'.cell? ⟨w.heap.size, 1, none⟩ = some (.slice a n cap) ∧ w'.cell? ⟨w.heap.size + 1, 0, none⟩ = some (.int .u64 (ys.length : Int)) ∧ w'.cell? ⟨w.heap.size + 1, 1, none⟩ = some (.slice a2 n2 cap2))
    ((first | go_keep | exact ⟨by assumption, by assumption, by assumption, by assumption⟩ | assumption))
    ((first
        | (go_at_call 78; refine (intercard_any _ _ p1 p2 _ _ ws1 ws2 _ _ _ (HB1.out.below hb2) HB2.out (by omega) (by omega) HWL1.out HWL2.out (twos 1 xs ys) (fun j => by rw [twos_get _ _ _ (by omega), HBIT1.out, HBIT2.out]; rfl)).mono ?_; rintro e w3 ⟨rfl, m, rfl⟩)
        | (go_at_call 53; refine (set64_any _ ys _ (HU0.out.below rfl hb1) (by omega)).mono ?_; rintro e w2 ⟨p2, ws2, rfl, hbs2, hwl2, hbit2, hb2⟩; rw [← hwl2] at hbs2; have HB2 := Lib.hid hbs2; have HWL2 := Lib.hid hwl2; have HBIT2 := Lib.hid hbit2; clear hbs2 hwl2 hbit2; have hz2 : w.heap.size + 1 < w2.heap.size := (by have := hb2.size; simp at *; omega); have x20 : w2.cell? ⟨w.heap.size, 0, none⟩ = some (.int .u64 (xs.length : Int)) := (hb2.cell (p := ⟨w.heap.size, 0, none⟩) (by simp; omega)).trans x10; have x21 : w2.cell? ⟨w.heap.size, 1, none⟩ = some (.slice a n cap) := (hb2.cell (p := ⟨w.heap.size, 1, none⟩) (by simp; omega)).trans x11; have x22 : w2.cell? ⟨w.heap.size + 1, 0, none⟩ = some (.int .u64 (ys.length : Int)) := (hb2.cell (p := ⟨w.heap.size + 1, 0, none⟩) (by simp; omega)).trans x12; have x23 : w2.cell? ⟨w.heap.size + 1, 1, none⟩ = some (.slice a2 n2 cap2) := (hb2.cell (p := ⟨w.heap.size + 1, 1, none⟩) (by simp; omega)).trans x13)
        | (go_at_call 53; refine (set64_any _ xs _ HV0.out (by omega)).mono ?_; rintro e w1 ⟨p1, ws1, rfl, hbs1, hwl1, hbit1, hb1⟩; rw [← hwl1] at hbs1; have HB1 := Lib.hid hbs1; have HWL1 := Lib.hid hwl1; have HBIT1 := Lib.hid hbit1; clear hbs1 hwl1 hbit1; have hz1 : w.heap.size + 1 < w1.heap.size := (by have := hb1.size; have := HZD.out; omega); have x10 : w1.cell? ⟨w.heap.size, 0, none⟩ = some (.int .u64 (xs.length : Int)) := (hb1.cell (p := ⟨w.heap.size, 0, none⟩) (by simp; omega)).trans x00; have x11 : w1.cell? ⟨w.heap.size, 1, none⟩ = some (.slice a n cap) := (hb1.cell (p := ⟨w.heap.size, 1, none⟩) (by simp; omega)).trans x01; have x12 : w1.cell? ⟨w.heap.size + 1, 0, none⟩ = some (.int .u64 (ys.length : Int)) := (hb1.cell (p := ⟨w.heap.size + 1, 0, none⟩) (by simp; omega)).trans x02; have x13 : w1.cell? ⟨w.heap.size + 1, 1, none⟩ = some (.slice a2 n2 cap2) := (hb1.cell (p := ⟨w.heap.size + 1, 1, none⟩) (by simp; omega)).trans x03)))
  go_wp2_with fail
  go_ret
  exact ⟨rfl, below_drewN (HB0.out.drew.trans ((hb1.mono (by have := HZD.out; omega)).trans (hb2.mono (by omega)))) m⟩

set_option maxRecDepth 100000 in
set_option maxHeartbeats 4000000 in
theorem bsinter_any (v u : Value) (xs ys : List Bool)  (w : World) (hv : IsBits w v xs) (hu : IsBits w u ys) (hn : xs.length ≤ 1000) (hn2 : ys.length ≤ 1000) :
    Calls Try.prog 47 #[v, u] w fun e w' => ∃ v' cs, e = .returned v' ∧ OwnBits w.heap.size w' v' cs ∧ Bsm.pos cs = Bsm.pos (twos 1 xs ys) ∧ cs.length ≤ 10000 ∧ Below w.heap.size w w' := by
  have hv0 := hv
  have hu0 := hu
  obtain ⟨s, rfl, hs⟩ := hv
  obtain ⟨a, n, cap, rfl, _⟩ := hs
  obtain ⟨s2, rfl, hs2⟩ := hu
  obtain ⟨a2, n2, cap2, rfl, _⟩ := hs2
  have hb0 : Below w.heap.size w (((w.alloc (.cells #[.int .u64 (xs.length : Int), .slice a n cap] 25)).alloc (.cells #[.int .u64 (ys.length : Int), .slice a2 n2 cap2] 25)).alloc (.cells #[.int .u64 0, .slice none 0 0] 25)) := (((Below.refl _ _).alloc (Nat.le_refl _) _).alloc (by simp) _).alloc (by simp; omega) _
  have HV := Lib.hid (hv0.below rfl hb0)
  have HU := Lib.hid (hu0.below rfl hb0)
  have HB0 := Lib.hid hb0
  obtain ⟨w0, hw0⟩ : ∃ w0, w0 = (((w.alloc (.cells #[.int .u64 (xs.length : Int), .slice a n cap] 25)).alloc (.cells #[.int .u64 (ys.length : Int), .slice a2 n2 cap2] 25)).alloc (.cells #[.int .u64 0, .slice none 0 0] 25)) := ⟨_, rfl⟩
  have k0 : Blk w0 w.heap.size 25 #[.int .u64 (xs.length : Int), .slice a n cap] := by rw [hw0]; exact (((Blk.new w 25 #[.int .u64 (xs.length : Int), .slice a n cap]).alloc _).alloc _)
  have k1 : Blk w0 (w.heap.size + 1) 25 #[.int .u64 (ys.length : Int), .slice a2 n2 cap2] := by
    have := Blk.new (w.alloc (.cells #[.int .u64 (xs.length : Int), .slice a n cap] 25)) 25 #[.int .u64 (ys.length : Int), .slice a2 n2 cap2]
    rw [World.size_alloc] at this
    rw [hw0]; exact this.alloc _
  have k2 : Blk w0 (w.heap.size + 2) 25 #[.int .u64 0, .slice none 0 0] := by
    have := Blk.new ((w.alloc (.cells #[.int .u64 (xs.length : Int), .slice a n cap] 25)).alloc (.cells #[.int .u64 (ys.length : Int), .slice a2 n2 cap2] 25)) 25 #[.int .u64 0, .slice none 0 0]
    simp only [World.size_alloc] at this
    rw [hw0]; exact this
  have hz0 : w.heap.size + 2 < w0.heap.size := by rw [hw0]; simp
  rw [← hw0] at HV HU HB0
  clear hb0 hv0 hu0
  go_enter Try.func47, Try.ntmps47
  go_wp2_with fail
  rw [← hw0]
  clear hw0
  have x00 : w0.drew.cell? ⟨w.heap.size, 0, none⟩ = some (.int .u64 (xs.length : Int)) := k0.cell 0 rfl
  have x01 : w0.drew.cell? ⟨w.heap.size, 1, none⟩ = some (.slice a n cap) := k0.cell 1 rfl
  have x02 : w0.drew.cell? ⟨w.heap.size + 1, 0, none⟩ = some (.int .u64 (ys.length : Int)) := k1.cell 0 rfl
  have x03 : w0.drew.cell? ⟨w.heap.size + 1, 1, none⟩ = some (.slice a2 n2 cap2) := k1.cell 1 rfl
  have x04 : w0.drew.cell? ⟨w.heap.size + 2, 0, none⟩ = some (.int .u64 0) := k2.cell 0 rfl
  have x05 : w0.drew.cell? ⟨w.heap.size + 2, 1, none⟩ = some (.slice none 0 0) := k2.cell 1 rfl
  have HV0 := Lib.hid (HV.out.below rfl (Below.refl _ _).drew)
  have HU0 := Lib.hid (HU.out.below rfl (Below.refl _ _).drew)
  have hzd : w0.drew.heap.size = w0.heap.size := rfl
  have HZD := Lib.hid hzd
  have K2 : Hid (Blk w0.drew (w.heap.size + 2) 25 #[.int .u64 0, .slice none 0 0]) := k2
  clear k0 k1 k2 hzd
  have hne : ¬ w.heap.size + 1 + 1 = w.heap.size := by omega
  go_region_held3 (fun w' => w'.cell? ⟨w.heap.size, 0, none⟩ = some (.int .u64 (xs.length : Int)) ∧ w'.cell? ⟨w.heap.size, 1, none⟩ = some (.slice a n cap) ∧ w'.cell? ⟨w.heap.size + 1, 0, none⟩ = some (.int .u64 (ys.length : Int)) ∧ w'.cell? ⟨w.heap.size + 1, 1, none⟩ = some (.slice a2 n2 cap2))
    ((first | go_keep | exact ⟨by assumption, by assumption, by assumption, by assumption⟩ | assumption))
    ((first
        | (go_at_call 55; refine (said64_any _ r (min xs.length ys.length) ws3 cap3 _ HB3.out HL3.out (by omega)).mono ?_; rintro e w4 ⟨v', rfl, hob, hb4⟩; have HOB := Lib.hid hob; obtain ⟨p', m', c', rfl, _⟩ := hob; have hz4 : w.heap.size + 2 < w4.heap.size := (by have := hb4.size; simp at *; omega); have x40 : w4.cell? ⟨w.heap.size, 0, none⟩ = some (.int .u64 (xs.length : Int)) := (hb4.cell (p := ⟨w.heap.size, 0, none⟩) (by simp; omega)).trans x30; have x41 : w4.cell? ⟨w.heap.size, 1, none⟩ = some (.slice a n cap) := (hb4.cell (p := ⟨w.heap.size, 1, none⟩) (by simp; omega)).trans x31; have x42 : w4.cell? ⟨w.heap.size + 1, 0, none⟩ = some (.int .u64 (ys.length : Int)) := (hb4.cell (p := ⟨w.heap.size + 1, 0, none⟩) (by simp; omega)).trans x32; have x43 : w4.cell? ⟨w.heap.size + 1, 1, none⟩ = some (.slice a2 n2 cap2) := (hb4.cell (p := ⟨w.heap.size + 1, 1, none⟩) (by simp; omega)).trans x33; have x44 : w4.cell? ⟨w.heap.size + 2, 0, none⟩ = some (.int .u64 0) := (hb4.cell (p := ⟨w.heap.size + 2, 0, none⟩) (by simp; omega)).trans x34; have x45 : w4.cell? ⟨w.heap.size + 2, 1, none⟩ = some (.slice none 0 0) := (hb4.cell (p := ⟨w.heap.size + 2, 1, none⟩) (by simp; omega)).trans x35; have y0 := ((((K2.out.below hb1 (by have := HZD.out; omega)).below hb2 (by omega)).below hb3 (by omega)).below hb4 (by omega)).free 0; have y1 := ((((K2.out.below hb1 (by have := HZD.out; omega)).below hb2 (by omega)).below hb3 (by omega)).below hb4 (by omega)).free 1)
        | (go_at_call 76; refine (inter_any _ _ p1 p2 _ _ ws1 ws2 _ _ _ (HB1.out.below hb2) HB2.out (by omega) (by omega) HWL1.out HWL2.out).mono ?_; rintro e w3 ⟨r, ws3, cap3, rfl, hbs3, hl3, hbit3, hb3⟩; have HB3 := Lib.hid hbs3; have HL3 := Lib.hid hl3; have HBIT3 := Lib.hid hbit3; clear hbs3 hl3 hbit3; have hz3 : w.heap.size + 2 < w3.heap.size := (by have := hb3.size; simp at *; omega); have x30 : w3.cell? ⟨w.heap.size, 0, none⟩ = some (.int .u64 (xs.length : Int)) := (hb3.cell (p := ⟨w.heap.size, 0, none⟩) (by simp; omega)).trans x20; have x31 : w3.cell? ⟨w.heap.size, 1, none⟩ = some (.slice a n cap) := (hb3.cell (p := ⟨w.heap.size, 1, none⟩) (by simp; omega)).trans x21; have x32 : w3.cell? ⟨w.heap.size + 1, 0, none⟩ = some (.int .u64 (ys.length : Int)) := (hb3.cell (p := ⟨w.heap.size + 1, 0, none⟩) (by simp; omega)).trans x22; have x33 : w3.cell? ⟨w.heap.size + 1, 1, none⟩ = some (.slice a2 n2 cap2) := (hb3.cell (p := ⟨w.heap.size + 1, 1, none⟩) (by simp; omega)).trans x23; have x34 : w3.cell? ⟨w.heap.size + 2, 0, none⟩ = some (.int .u64 0) := (hb3.cell (p := ⟨w.heap.size + 2, 0, none⟩) (by simp; omega)).trans x24; have x35 : w3.cell? ⟨w.heap.size + 2, 1, none⟩ = some (.slice none 0 0) := (hb3.cell (p := ⟨w.heap.size + 2, 1, none⟩) (by simp; omega)).trans x25)
        | (go_at_call 53; refine (set64_any _ ys _ (HU0.out.below rfl hb1) (by omega)).mono ?_; rintro e w2 ⟨p2, ws2, rfl, hbs2, hwl2, hbit2, hb2⟩; rw [← hwl2] at hbs2; have HB2 := Lib.hid hbs2; have HWL2 := Lib.hid hwl2; have HBIT2 := Lib.hid hbit2; clear hbs2 hwl2 hbit2; have hz2 : w.heap.size + 2 < w2.heap.size := (by have := hb2.size; simp at *; omega); have x20 : w2.cell? ⟨w.heap.size, 0, none⟩ = some (.int .u64 (xs.length : Int)) := (hb2.cell (p := ⟨w.heap.size, 0, none⟩) (by simp; omega)).trans x10; have x21 : w2.cell? ⟨w.heap.size, 1, none⟩ = some (.slice a n cap) := (hb2.cell (p := ⟨w.heap.size, 1, none⟩) (by simp; omega)).trans x11; have x22 : w2.cell? ⟨w.heap.size + 1, 0, none⟩ = some (.int .u64 (ys.length : Int)) := (hb2.cell (p := ⟨w.heap.size + 1, 0, none⟩) (by simp; omega)).trans x12; have x23 : w2.cell? ⟨w.heap.size + 1, 1, none⟩ = some (.slice a2 n2 cap2) := (hb2.cell (p := ⟨w.heap.size + 1, 1, none⟩) (by simp; omega)).trans x13; have x24 : w2.cell? ⟨w.heap.size + 2, 0, none⟩ = some (.int .u64 0) := (hb2.cell (p := ⟨w.heap.size + 2, 0, none⟩) (by simp; omega)).trans x14; have x25 : w2.cell? ⟨w.heap.size + 2, 1, none⟩ = some (.slice none 0 0) := (hb2.cell (p := ⟨w.heap.size + 2, 1, none⟩) (by simp; omega)).trans x15)
        | (go_at_call 53; refine (set64_any _ xs _ HV0.out (by omega)).mono ?_; rintro e w1 ⟨p1, ws1, rfl, hbs1, hwl1, hbit1, hb1⟩; rw [← hwl1] at hbs1; have HB1 := Lib.hid hbs1; have HWL1 := Lib.hid hwl1; have HBIT1 := Lib.hid hbit1; clear hbs1 hwl1 hbit1; have hz1 : w.heap.size + 2 < w1.heap.size := (by have := hb1.size; have := HZD.out; omega); have x10 : w1.cell? ⟨w.heap.size, 0, none⟩ = some (.int .u64 (xs.length : Int)) := (hb1.cell (p := ⟨w.heap.size, 0, none⟩) (by simp; omega)).trans x00; have x11 : w1.cell? ⟨w.heap.size, 1, none⟩ = some (.slice a n cap) := (hb1.cell (p := ⟨w.heap.size, 1, none⟩) (by simp; omega)).trans x01; have x12 : w1.cell? ⟨w.heap.size + 1, 0, none⟩ = some (.int .u64 (ys.length : Int)) := (hb1.cell (p := ⟨w.heap.size + 1, 0, none⟩) (by simp; omega)).trans x02; have x13 : w1.cell? ⟨w.heap.size + 1, 1, none⟩ = some (.slice a2 n2 cap2) := (hb1.cell (p := ⟨w.heap.size + 1, 1, none⟩) (by simp; omega)).trans x03; have x14 : w1.cell? ⟨w.heap.size + 2, 0, none⟩ = some (.int .u64 0) := (hb1.cell (p := ⟨w.heap.size + 2, 0, none⟩) (by simp; omega)).trans x04; have x15 : w1.cell? ⟨w.heap.size + 2, 1, none⟩ = some (.slice none 0 0) := (hb1.cell (p := ⟨w.heap.size + 2, 1, none⟩) (by simp; omega)).trans x05)))
  go_wp2_with fail
  refine bodyPost_ret (v := .agg #[.int .u64 ((Bsm.bitsOf ws3 (min xs.length ys.length)).length : Int), .slice p' m' c']) (by simp [results, Try.results47, go_sem, *]) rfl ?_
  refine ⟨_, Bsm.bitsOf ws3 (min xs.length ys.length), rfl, ?_, ?_, by rw [Bsm.bitsOf_len]; omega, ((HB0.out.drew.trans ((hb1.mono (by have := HZD.out; omega)).trans ((hb2.mono (by omega)).trans ((hb3.mono (by omega)).trans (hb4.mono (by omega)))))).setCell (by simp; omega) _).setCell (by simp; omega) _⟩
  · exact ((HOB.out.set (a := ⟨w.heap.size + 2, 0, none⟩) (by simp; omega) (.int .u64 ((Bsm.bitsOf ws3 (min xs.length ys.length)).length : Int))).set (a := ⟨w.heap.size + 2, 1, none⟩) (by simp; omega) (.slice p' m' c')).weaken (B' := w.heap.size) (by omega)
  · apply Bsm.pos_congr
    intro j
    rw [Bsm.bitsOf_get, twos_get _ _ _ (by omega)]
    by_cases hj : j < min xs.length ys.length
    · rw [HBIT3.out j hj, HBIT1.out, HBIT2.out]; simp [hj, two]
    · have : xs.getD j false = false ∨ ys.getD j false = false := by
        by_cases h : j < xs.length
        · exact .inr (Bsm.getD_out ys j (by omega))
        · exact .inl (Bsm.getD_out xs j (by omega))
      rcases this with h | h <;> rw [h] <;> simp [hj, two]

set_option maxRecDepth 100000 in
set_option maxHeartbeats 4000000 in
theorem bsinterin_any (v u : Value) (xs ys : List Bool)  (w : World) (hv : IsBits w v xs) (hu : IsBits w u ys) (hn : xs.length ≤ 1000) (hn2 : ys.length ≤ 1000) :
    Calls Try.prog 48 #[v, u] w fun e w' => ∃ v' cs, e = .returned v' ∧ OwnBits w.heap.size w' v' cs ∧ Bsm.pos cs = Bsm.pos (twos 1 xs ys) ∧ cs.length ≤ 10000 ∧ Below w.heap.size w w' := by
  have hv0 := hv
  have hu0 := hu
  obtain ⟨s, rfl, hs⟩ := hv
  obtain ⟨a, n, cap, rfl, _⟩ := hs
  obtain ⟨s2, rfl, hs2⟩ := hu
  obtain ⟨a2, n2, cap2, rfl, _⟩ := hs2
  have hb0 : Below w.heap.size w (((w.alloc (.cells #[.int .u64 (xs.length : Int), .slice a n cap] 25)).alloc (.cells #[.int .u64 (ys.length : Int), .slice a2 n2 cap2] 25)).alloc (.cells #[.int .u64 0, .slice none 0 0] 25)) := (((Below.refl _ _).alloc (Nat.le_refl _) _).alloc (by simp) _).alloc (by simp; omega) _
  have HV := Lib.hid (hv0.below rfl hb0)
  have HU := Lib.hid (hu0.below rfl hb0)
  have HB0 := Lib.hid hb0
  obtain ⟨w0, hw0⟩ : ∃ w0, w0 = (((w.alloc (.cells #[.int .u64 (xs.length : Int), .slice a n cap] 25)).alloc (.cells #[.int .u64 (ys.length : Int), .slice a2 n2 cap2] 25)).alloc (.cells #[.int .u64 0, .slice none 0 0] 25)) := ⟨_, rfl⟩
  have k0 : Blk w0 w.heap.size 25 #[.int .u64 (xs.length : Int), .slice a n cap] := by rw [hw0]; exact (((Blk.new w 25 #[.int .u64 (xs.length : Int), .slice a n cap]).alloc _).alloc _)
  have k1 : Blk w0 (w.heap.size + 1) 25 #[.int .u64 (ys.length : Int), .slice a2 n2 cap2] := by
    have := Blk.new (w.alloc (.cells #[.int .u64 (xs.length : Int), .slice a n cap] 25)) 25 #[.int .u64 (ys.length : Int), .slice a2 n2 cap2]
    rw [World.size_alloc] at this
    rw [hw0]; exact this.alloc _
  have k2 : Blk w0 (w.heap.size + 2) 25 #[.int .u64 0, .slice none 0 0] := by
    have := Blk.new ((w.alloc (.cells #[.int .u64 (xs.length : Int), .slice a n cap] 25)).alloc (.cells #[.int .u64 (ys.length : Int), .slice a2 n2 cap2] 25)) 25 #[.int .u64 0, .slice none 0 0]
    simp only [World.size_alloc] at this
    rw [hw0]; exact this
  have hz0 : w.heap.size + 2 < w0.heap.size := by rw [hw0]; simp
  rw [← hw0] at HV HU HB0
  clear hb0 hv0 hu0
  have HV0 := Lib.hid HV.out
  have HU0 := Lib.hid HU.out
  have x00 : w0.cell? ⟨w.heap.size, 0, none⟩ = some (.int .u64 (xs.length : Int)) := k0.cell 0 rfl
  have x01 : w0.cell? ⟨w.heap.size, 1, none⟩ = some (.slice a n cap) := k0.cell 1 rfl
  have x02 : w0.cell? ⟨w.heap.size + 1, 0, none⟩ = some (.int .u64 (ys.length : Int)) := k1.cell 0 rfl
  have x03 : w0.cell? ⟨w.heap.size + 1, 1, none⟩ = some (.slice a2 n2 cap2) := k1.cell 1 rfl
  have K2 := Lib.hid k2
  clear k0 k1 k2
  go_enter Try.func48, Try.ntmps48
  go_wp2_with fail
  rw [← hw0]
  clear hw0
  refine (set64_any _ xs _ HV0.out (by omega)).mono ?_
  rintro e w1 ⟨p1, ws1, rfl, hbs1, hwl1, hbit1, hb1⟩
  rw [← hwl1] at hbs1
  have HB1 := Lib.hid hbs1
  have HWL1 := Lib.hid hwl1
  have HBIT1 := Lib.hid hbit1
  clear hbs1 hwl1 hbit1
  have hz1 : w.heap.size + 2 < w1.heap.size := (by have := hb1.size; simp at *; omega); have x10 : w1.cell? ⟨w.heap.size, 0, none⟩ = some (.int .u64 (xs.length : Int)) := (hb1.cell (p := ⟨w.heap.size, 0, none⟩) (by simp; omega)).trans x00; have x11 : w1.cell? ⟨w.heap.size, 1, none⟩ = some (.slice a n cap) := (hb1.cell (p := ⟨w.heap.size, 1, none⟩) (by simp; omega)).trans x01; have x12 : w1.cell? ⟨w.heap.size + 1, 0, none⟩ = some (.int .u64 (ys.length : Int)) := (hb1.cell (p := ⟨w.heap.size + 1, 0, none⟩) (by simp; omega)).trans x02; have x13 : w1.cell? ⟨w.heap.size + 1, 1, none⟩ = some (.slice a2 n2 cap2) := (hb1.cell (p := ⟨w.heap.size + 1, 1, none⟩) (by simp; omega)).trans x03
  go_wp2_with fail
  refine (set64_any _ ys _ (HU0.out.below rfl hb1) (by omega)).mono ?_
  rintro e w2 ⟨p2, ws2, rfl, hbs2, hwl2, hbit2, hb2⟩
  rw [← hwl2] at hbs2
  have HB2 := Lib.hid hbs2
  have HWL2 := Lib.hid hwl2
  have HBIT2 := Lib.hid hbit2
  clear hbs2 hwl2 hbit2
  have hz2 : w.heap.size + 2 < w2.heap.size := (by have := hb2.size; simp at *; omega); have x20 : w2.cell? ⟨w.heap.size, 0, none⟩ = some (.int .u64 (xs.length : Int)) := (hb2.cell (p := ⟨w.heap.size, 0, none⟩) (by simp; omega)).trans x10; have x21 : w2.cell? ⟨w.heap.size, 1, none⟩ = some (.slice a n cap) := (hb2.cell (p := ⟨w.heap.size, 1, none⟩) (by simp; omega)).trans x11; have x22 : w2.cell? ⟨w.heap.size + 1, 0, none⟩ = some (.int .u64 (ys.length : Int)) := (hb2.cell (p := ⟨w.heap.size + 1, 0, none⟩) (by simp; omega)).trans x12; have x23 : w2.cell? ⟨w.heap.size + 1, 1, none⟩ = some (.slice a2 n2 cap2) := (hb2.cell (p := ⟨w.heap.size + 1, 1, none⟩) (by simp; omega)).trans x13
  have HUN : Hid (Under w1.heap.size p1 w2) := by
    obtain ⟨g, _, e1, _, _, _, e2, e3⟩ := HB1.out.sl
    refine ⟨e3, fun q n c hq => ?_⟩
    rw [(hb2.cell (p := ⟨p1, 1, none⟩) e3).trans e1] at hq
    simp only [Option.some.injEq, Value.slice.injEq] at hq
    rw [← hq.1]
    exact e2
  go_wp2_with fail
  refine (interin_any w0.heap.size w1.heap.size p1 p2 _ _ ws1 ws2 _ _ (HB1.out.below hb2) HB2.out (by omega) (by omega) HWL1.out HWL2.out HUN.out (by have := hb1.size; have := hb2.size; omega)).mono ?_
  rintro e w3 ⟨rfl, ws3, cap3, hbs3, hl3, hbit3, hb3⟩
  have HB3 := Lib.hid hbs3
  have HL3 := Lib.hid hl3
  have HBIT3 := Lib.hid hbit3
  clear hbs3 hl3 hbit3
  have hz3 : w.heap.size + 2 < w3.heap.size := (by have := hb3.size; simp at *; omega); have x30 : w3.cell? ⟨w.heap.size, 0, none⟩ = some (.int .u64 (xs.length : Int)) := (hb3.cell (p := ⟨w.heap.size, 0, none⟩) (by simp; omega)).trans x20; have x31 : w3.cell? ⟨w.heap.size, 1, none⟩ = some (.slice a n cap) := (hb3.cell (p := ⟨w.heap.size, 1, none⟩) (by simp; omega)).trans x21; have x32 : w3.cell? ⟨w.heap.size + 1, 0, none⟩ = some (.int .u64 (ys.length : Int)) := (hb3.cell (p := ⟨w.heap.size + 1, 0, none⟩) (by simp; omega)).trans x22; have x33 : w3.cell? ⟨w.heap.size + 1, 1, none⟩ = some (.slice a2 n2 cap2) := (hb3.cell (p := ⟨w.heap.size + 1, 1, none⟩) (by simp; omega)).trans x23
  go_wp2_with fail
  refine (said64_any _ p1 (max xs.length ys.length) ws3 cap3 _ HB3.out HL3.out (by omega)).mono ?_
  rintro e w4 ⟨v', rfl, hob, hb4⟩
  have HOB := Lib.hid hob
  obtain ⟨p', m', c', rfl, _⟩ := hob
  have hz4 : w.heap.size + 2 < w4.heap.size := (by have := hb4.size; simp at *; omega); have x40 : w4.cell? ⟨w.heap.size, 0, none⟩ = some (.int .u64 (xs.length : Int)) := (hb4.cell (p := ⟨w.heap.size, 0, none⟩) (by simp; omega)).trans x30; have x41 : w4.cell? ⟨w.heap.size, 1, none⟩ = some (.slice a n cap) := (hb4.cell (p := ⟨w.heap.size, 1, none⟩) (by simp; omega)).trans x31; have x42 : w4.cell? ⟨w.heap.size + 1, 0, none⟩ = some (.int .u64 (ys.length : Int)) := (hb4.cell (p := ⟨w.heap.size + 1, 0, none⟩) (by simp; omega)).trans x32; have x43 : w4.cell? ⟨w.heap.size + 1, 1, none⟩ = some (.slice a2 n2 cap2) := (hb4.cell (p := ⟨w.heap.size + 1, 1, none⟩) (by simp; omega)).trans x33
  have bk := (((K2.out.below hb1 (by omega)).below hb2 (by omega)).below hb3 (by omega)).below hb4 (by omega)
  have q0 : w4.cell? ⟨w.heap.size + 2, 0, none⟩ = some (.int .u64 0) := bk.cell 0 rfl
  have q1 : w4.cell? ⟨w.heap.size + 2, 1, none⟩ = some (.slice none 0 0) := bk.cell 1 rfl
  have y0 := bk.free 0
  have y1 := bk.free 1
  clear bk
  go_wp2_with fail
  refine bodyPost_ret (v := .agg #[.int .u64 ((Bsm.bitsOf ws3 (max xs.length ys.length)).length : Int), .slice p' m' c']) (by simp [results, Try.results48, go_sem, *]) rfl ?_
  refine ⟨_, Bsm.bitsOf ws3 (max xs.length ys.length), rfl, ?_, ?_, by rw [Bsm.bitsOf_len]; omega, (((HB0.out).trans ((hb1.mono (by omega)).trans ((hb2.mono (by omega)).trans ((hb3.mono (by omega)).trans (hb4.mono (by omega)))))).setCell (by simp; omega) _).setCell (by simp; omega) _⟩
  · exact ((HOB.out.set (a := ⟨w.heap.size + 2, 0, none⟩) (by simp; omega) (.int .u64 ((Bsm.bitsOf ws3 (max xs.length ys.length)).length : Int))).set (a := ⟨w.heap.size + 2, 1, none⟩) (by simp; omega) (.slice p' m' c')).weaken (B' := w.heap.size) (by omega)
  · apply Bsm.pos_congr
    intro j
    rw [Bsm.bitsOf_get, twos_get _ _ _ (by omega)]
    rw [HBIT3.out, HBIT1.out, HBIT2.out]
    by_cases hj : j < max xs.length ys.length
    · simp [hj, two]
    · rw [Bsm.getD_out xs j (by omega), Bsm.getD_out ys j (by omega)]; simp [two]
end Go.Proofs.Ytbgmkojiklphmaa
