/- The walk of the law FnRoadSets: it returns true at every input. -/
import Derived.Test.YtgifbdjifmoafaaGreatRdPlain
import Derived.Deep.RegionHeld3
import Derived.Deep.DeepCutAuto
namespace Go.Proofs.YtgifbdjifmoafaaGreat
set_option linter.unusedVariables false
open Go.RowKit Bam

theorem len16 {w : World} {v : Value} {ns : List Nat} (h : Sl w v (u16s ns)) : ∃ a n c, v = .slice a n c ∧ (n : Int) ≤ 9223372036854775807 := by
  obtain ⟨a, n, c, rfl, hl, hc, hm, hr⟩ := h
  exact ⟨a, n, c, rfl, by unfold maxLen at hm; omega⟩

set_option maxRecDepth 100000 in
set_option maxHeartbeats 16000000 in
theorem law_roadsets (va vb : Value) (w : World) (h1 : IsInts .u16 w va) (h2 : IsInts .u16 w vb) :
    Calls Tryz.prog 3 #[va, vb] w fun e w' => e = .returned (.bool true) ∧ Below w.heap.size w w' := by
  obtain ⟨a, ha, hab⟩ := nats16_of h1
  obtain ⟨b, hb, hbb⟩ := nats16_of h2
  obtain ⟨pa, na, ca, rfl, hna⟩ := len16 ha
  obtain ⟨pb, nb, cb, rfl, hnb⟩ := len16 hb
  have HA := Lib.hid ha
  have HB := Lib.hid hb
  have HAB := Lib.hid hab
  have HBB := Lib.hid hbb
  clear h1 h2 ha hb hab hbb
  by_cases hz : (2147483647 : Int) < (na : Int)
  · go_enter Tryz.func3, Tryz.ntmps3
    go_wp2_with fail
    go_ret
    exact ⟨rfl, Below.refl _ _⟩
  by_cases hz2 : (2147483647 : Int) < (nb : Int)
  · go_enter Tryz.func3, Tryz.ntmps3
    go_wp2_with fail
    go_ret
    exact ⟨rfl, Below.refl _ _⟩
  go_enter Tryz.func3, Tryz.ntmps3
  go_wp2_with fail
  refine (once_any _ a w HA.out HAB.out).mono ?_
  rintro e w1 ⟨vx, X, rfl, hu1, hasc1, hl1, hb1, hbe1⟩
  have hbw : Sl w1 (.slice pb nb cb) (u16s b) := HB.out.below rfl hbe1
  have HBW := Lib.hid hbw
  have HU1 := Lib.hid hu1
  have HX1 := Lib.hid hasc1
  have HXB := Lib.hid hb1
  have HBE1 := Lib.hid hbe1
  clear hu1 hasc1 hb1 hbe1 hbw
  go_wp2_with fail
  refine (once_any _ b w1 HBW.out HBB.out).mono ?_
  rintro e w2 ⟨vy, Y, rfl, hu2, hasc2, hl2, hb2, hbe2⟩
  have hu12 : Us w2 vx X := own_below HU1.out hbe2
  have hbe : Below w.heap.size w w2 := HBE1.out.trans (hbe2.mono HBE1.out.size)
  have HU12 := Lib.hid hu12
  have HU2 := Lib.hid hu2
  have HX2 := Lib.hid hasc2
  have HYB := Lib.hid hb2
  have HBE2 := Lib.hid hbe
  clear hu2 hasc2 hb2 hbe2 hu12 hbe HU1 HBW HBE1
  obtain ⟨ax, cx, rfl, -⟩ := HU12.out.shape
  obtain ⟨ay, cy, rfl, -⟩ := HU2.out.shape
  obtain ⟨lx, hlx⟩ : ∃ n, X.length = n := ⟨_, rfl⟩
  obtain ⟨ly, hly⟩ : ∃ n, Y.length = n := ⟨_, rfl⟩
  rw [hlx] at HU12 hl1 ⊢
  rw [hly] at HU2 hl2 ⊢
  have HLX := Lib.hid hlx
  have HLY := Lib.hid hly
  have hk1 : ∀ w', Us w' (.slice ax lx cx) X → Calls Tryz.prog 5 #[.bool false, .int .u16 0, .slice ax lx cx, .int .i64 0] w' fun e w'' =>
      ∃ (pa : Option Addr) (ca : Nat) (sv : Value), e = .returned (.tuple #[.slice pa (lx + 1) ca, .agg #[.bool false, .int .u64 0, sv]]) ∧ w''.ownsRow w'.heap.size 33 6 (.slice pa (lx + 1) ca) (lx + 1) ((madeL 0 X).map stpRow).flatten ∧ Us w'' sv X ∧ Below w'.heap.size w' w'' := fun w' h => by
    have h0 := made_sp 0 (.slice ax lx cx) X 0 w' (Sl.of_owns h) (fun x hx => by have := HXB.out x hx; omega) (by decide)
    rw [List.take_of_length_le (by omega), HLX.out] at h0
    refine h0.mono ?_
    rintro e w'' ⟨pa, ca, sv, he, ho, hu, hb⟩
    have hm := made_nums X HX1.out HXB.out
    rw [HLX.out] at hm
    rw [hm] at hu
    exact ⟨pa, ca, sv, he, ho, hu, hb⟩
  have hk2 : ∀ w', Us w' (.slice ay ly cy) Y → Calls Tryz.prog 5 #[.bool false, .int .u16 0, .slice ay ly cy, .int .i64 1] w' fun e w'' =>
      ∃ (pa : Option Addr) (ca : Nat) (sv : Value), e = .returned (.tuple #[.slice pa (ly + 1) ca, .agg #[.bool false, .int .u64 0, sv]]) ∧ w''.ownsRow w'.heap.size 33 6 (.slice pa (ly + 1) ca) (ly + 1) ((madeL 1 Y).map stpRow).flatten ∧ Us w'' sv Y ∧ Below w'.heap.size w' w'' := fun w' h => by
    have h0 := made_sp 0 (.slice ay ly cy) Y 1 w' (Sl.of_owns h) (fun x hx => by have := HYB.out x hx; omega) (by decide)
    rw [List.take_of_length_le (by omega), HLY.out] at h0
    refine h0.mono ?_
    rintro e w'' ⟨pa, ca, sv, he, ho, hu, hb⟩
    have hm := made_nums Y HX2.out HYB.out
    rw [HLY.out] at hm
    rw [hm] at hu
    exact ⟨pa, ca, sv, he, ho, hu, hb⟩
  have HK1 := Lib.hid hk1
  have HK2 := Lib.hid hk2
  clear hlx hly hk1 hk2
  obtain ⟨n1, hn1⟩ : ∃ n, lx + 1 = n := ⟨_, rfl⟩
  obtain ⟨n2, hn2⟩ : ∃ n, ly + 1 = n := ⟨_, rfl⟩
  rw [hn1] at HK1
  rw [hn2] at HK2
  have HN1 : Hid ((madeL 0 X).length = n1) := Lib.hid (by rw [madeL_len, HLX.out, hn1])
  have HN2 : Hid ((madeL 1 Y).length = n2) := Lib.hid (by rw [madeL_len, HLY.out, hn2])
  have hn19 : n1 ≤ 31 := by omega
  have hn29 : n2 ≤ 31 := by omega
  have hn10 : 0 < n1 := by omega
  clear hn1 hn2
  go_wp2_with fail
  refine (HK1.out w2 HU12.out).mono ?_
  rintro e w3 ⟨qa, da, sv1, rfl, ho1, hus1, hbe3⟩
  obtain ⟨s1a, s1c, rfl, -⟩ := hus1.shape
  clear hus1
  rw [HLX.out]
  have hux : Us w3 (.slice ax lx cx) X := own_below HU12.out hbe3
  have huy : Us w3 (.slice ay ly cy) Y := own_below HU2.out hbe3
  have hbe := HBE2.out.trans (hbe3.mono HBE2.out.size)
  have hal : Below w3.heap.size w3 (w3.alloc (.cells #[.bool false, .int .u64 0, .slice s1a lx s1c] 28)) := (Below.refl _ _).alloc (Nat.le_refl _) _
  have HUX := Lib.hid (show Us _ _ _ from own_below hux hal)
  have HUY := Lib.hid (show Us _ _ _ from own_below huy hal)
  have HO1 := Lib.hid (own_below (own_base ho1 HBE2.out.size) hal)
  have HBE3 := Lib.hid (hbe.trans (hal.mono hbe.size))
  clear ho1 hbe3 hux huy hbe hal HU12 HU2
  go_wp2_with fail
  obtain ⟨w4, hw4⟩ : ∃ w4, w3.alloc (.cells #[.bool false, .int .u64 0, .slice s1a lx s1c] 28) = w4 := ⟨_, rfl⟩
  rw [hw4] at HUX HUY HO1 HBE3 ⊢
  refine (HK2.out w4 HUY.out).mono ?_
  clear hw4
  rintro e w5 ⟨qb, db, sv2, rfl, ho2, hus2, hbe5⟩
  obtain ⟨s2a, s2c, rfl, -⟩ := hus2.shape
  clear hus2
  rw [HLY.out]
  have hux : Us w5 (.slice ax lx cx) X := own_below HUX.out hbe5
  have huy : Us w5 (.slice ay ly cy) Y := own_below HUY.out hbe5
  have hbe := HBE3.out.trans (hbe5.mono HBE3.out.size)
  have hal : Below w5.heap.size w5 (w5.alloc (.cells #[.bool false, .int .u64 0, .slice s2a ly s2c] 28)) := (Below.refl _ _).alloc (Nat.le_refl _) _
  have HUX5 := Lib.hid (show Us _ _ _ from own_below hux hal)
  have HUY5 := Lib.hid (show Us _ _ _ from own_below huy hal)
  have HO15 := Lib.hid (own_below (own_below HO1.out hbe5) hal)
  have hrw2 : Rw 6 w5 (.slice qb n2 db) ((madeL 1 Y).map stpRow) := Rw.of_owns (S := 6) (stpRow6 _) (by decide) ho2
  have HRW2 := Lib.hid (Rw.of_owns (S := 6) (stpRow6 _) (by decide) (own_below ho2 hal))
  have HBE5 := Lib.hid (hbe.trans (hal.mono hbe.size))
  clear ho2 hbe5 hux huy hbe hal HUX HUY HO1 hrw2
  have hs05 := HBE5.out.size
  have hlm : ((madeL 1 Y).map stpRow).length = n2 := by rw [List.length_map]; exact HN2.out
  have HMX1 := Lib.hid (show n1 + ((madeL 1 Y).map stpRow).length ≤ maxLen by rw [hlm]; unfold maxLen; omega)
  have HMY1 := Lib.hid (show (n1 + ((madeL 1 Y).map stpRow).length) * 48 ≤ 140737488355328 by rw [hlm]; omega)
  have HMX2 := Lib.hid (show n1 + ((madeL 1 Y).map stpRow).length + (roadT.map stpRow).length ≤ maxLen by rw [hlm]; show n1 + n2 + 6 ≤ maxLen; unfold maxLen; omega)
  have HMY2 := Lib.hid (show (n1 + ((madeL 1 Y).map stpRow).length + (roadT.map stpRow).length) * 48 ≤ 140737488355328 by rw [hlm]; show (n1 + n2 + 6) * 48 ≤ _; omega)
  clear hlm
  go_wp2_with (first
    | (at_builtin; refine wpList_apRw rfl (.tmp 37) (.tmp 38) 26 rfl w.heap.size 6 33 (.agg #[.int .i64 0, .int .i64 0, .int .i64 0, .int .u64 0, .int .i64 0, .bool false]) 48 Tryz.underlying26 info_stepm rfl (by decide) (.slice qa n1 da) n1 ((madeL 0 X).map stpRow).flatten rfl HO15.out (.slice qb n2 db) ((madeL 1 Y).map stpRow) rfl HRW2.out (stpRow6 _) (stpRow_one _) HMX1.out HMY1.out hs05 ?_; intro p7 m7 c7 w7 hown7 hg7 hb7; have HO7 := Lib.hid hown7; have HF7 := Lib.hid (Fr.of_grown (v' := .slice qa n1 da) hg7 (fun k hk => .inl hk)); have HB7 := Lib.hid (HBE5.out.trans hb7); have hs7 := HB7.out.size; clear hown7 hg7 hb7)
    | (at_builtin; refine wpList_apRw rfl (.tmp 39) (.tmp 46) 26 rfl w.heap.size 6 33 (.agg #[.int .i64 0, .int .i64 0, .int .i64 0, .int .u64 0, .int .i64 0, .bool false]) 48 Tryz.underlying26 info_stepm rfl (by decide) (.slice p7 m7 c7) _ _ rfl (HO7.out.alloc _) (.slice (some ⟨w7.heap.size, 0, none⟩) 6 6) (roadT.map stpRow) rfl (rw_new w7 33 roadV (roadT.map stpRow) (stpRow6 _) rfl 6 rfl (by decide)) (stpRow6 _) (stpRow_one _) HMX2.out HMY2.out (by rw [World.size_alloc]; omega) ?_; intro p8 m8 c8 w8 hown8 hg8 hb8; have HO8 := Lib.hid hown8; have HF8 := Lib.hid (Fr.of_grown (v' := .slice p7 m7 c7) hg8 (fun k hk => .inl hk)); have HB8 := Lib.hid ((HB7.out.alloc hs7 _).trans hb8); clear hown8 hg8 hb8))
  obtain ⟨PX, hPX⟩ : ∃ P, madeP X X.length = P := ⟨_, rfl⟩
  obtain ⟨PY, hPY⟩ : ∃ P, madeP Y Y.length = P := ⟨_, rfl⟩
  have sx : SOk PX := by rw [← hPX]; exact sok_made X (by rw [HLX.out]; omega)
  have sy : SOk PY := by rw [← hPY]; exact sok_made Y (by rw [HLY.out]; omega)
  have hnx : nums PX = X := by rw [← hPX]; exact made_nums X HX1.out HXB.out
  have hny : nums PY = Y := by rw [← hPY]; exact made_nums Y HX2.out HYB.out
  have hlp : PX.length + PY.length ≤ 900 := by
    have h1 := (madeP_ok X X.length (Nat.le_refl _)).1.len
    have h2 := (madeP_ok Y Y.length (Nat.le_refl _)).1.len
    rw [hPX, HLX.out] at h1
    rw [hPY, HLY.out] at h2
    omega
  have hrow8 : Rw 6 w8 (.slice p8 m8 c8) ((madeL 0 X ++ madeL 1 Y ++ roadT).map stpRow) := by
    have h := HO8.out
    exact Rw.of_owns (S := 6) (stpRow6 _) (by decide) (by rw [List.map_append, List.map_append, List.flatten_append, List.flatten_append]; exact h)
  have hr1 := runs_made [] 0 rfl (by decide) X (by rw [HLX.out]; omega)
  rw [hPX] at hr1
  have hr2 := runs_made [Arr.sp PX] 1 rfl (by decide) Y (by rw [HLY.out]; omega)
  rw [hPY] at hr2
  have hr3 := road_runs PX PY sx sy hlp
  rw [or_ok sx.ok sy.ok sx.nz sy.nz, and_ok sx.ok sy.ok, nand_ok sx.ok sy.ok sx.nz, hnx, hny] at hr3
  have hruns := (hr1.append hr2).append hr3
  have hN : (madeL 0 X ++ madeL 1 Y ++ roadT).length = n1 + n2 + 6 := by rw [List.length_append, List.length_append, HN1.out, HN2.out]; rfl
  have hans := answers_any _ _ _ _ w8 hrow8 hruns (by rw [hN]; omega) (by rw [hN]; omega)
  rw [hN] at hans
  have ht1 : (madeA X).length = n1 := hr1.len.trans HN1.out
  have ht2 : (madeA Y).length = n2 := hr2.len.trans HN2.out
  obtain ⟨N, hN3⟩ : ∃ N, n1 + n2 + 6 = N := ⟨_, rfl⟩
  rw [hN3] at hans
  have hux : Us w8 (.slice ax lx cx) X := by
    have h7 := HF7.out.own HUX5.out (row_row HUX5.out HO15.out (by decide))
    exact HF8.out.own (own_below h7 ((Below.refl _ _).alloc (Nat.le_refl _) _)) (row_row h7 HO7.out (by decide))
  have huy : Us w8 (.slice ay ly cy) Y := by
    have h7 := HF7.out.own HUY5.out (row_row HUY5.out HO15.out (by decide))
    exact HF8.out.own (own_below h7 ((Below.refl _ _).alloc (Nat.le_refl _) _)) (row_row h7 HO7.out (by decide))
  refine hans.mono ?_
  clear hans hrow8 hruns hN hr1 hr2 hr3 hnx hny hlp sx sy hPX hPY
  rintro e w9 ⟨pa8, ca8, rows, rfl, ho9, hl9, hr9, hs9, hb9⟩
  have hT : ∀ i (t : An), (roadA (sOr X Y) (sAnd X Y) (sNand X Y))[i]? = some t → (madeA X ++ madeA Y ++ roadA (sOr X Y) (sAnd X Y) (sNand X Y))[n1 + n2 + i]? = some t := fun i t h => by
    rw [List.getElem?_append_right (by rw [List.length_append, ht1, ht2]; omega), List.length_append, ht1, ht2, show n1 + n2 + i - (n1 + n2) = i by omega]; exact h
  obtain ⟨g8, rfl, hcell⟩ := said_cells ho9 hl9 hr9 hs9 (by omega)
  obtain ⟨v3, m3, d3, -, -, y3, -, e3⟩ := hcell _ _ (hT 3 _ rfl)
  obtain ⟨v4, m4, d4, -, -, y4, -, e4⟩ := hcell _ _ (hT 4 _ rfl)
  obtain ⟨v5, m5, d5, -, -, y5, -, e5⟩ := hcell _ _ (hT 5 _ rfl)
  simp only [] at e3 e4 e5
  have hq3 := nil_len e3
  obtain ⟨J1, hJ1⟩ : ∃ J, n1 + n2 + 3 = J := ⟨_, rfl⟩
  obtain ⟨J2, hJ2⟩ : ∃ J, n1 + n2 + 4 = J := ⟨_, rfl⟩
  obtain ⟨J3, hJ3⟩ : ∃ J, n1 + n2 + 5 = J := ⟨_, rfl⟩
  rw [hJ1] at y3
  rw [hJ2] at y4
  rw [hJ3] at y5
  have HE3 := Lib.hid (Sl.of_owns e3)
  have HE4 := Lib.hid (Sl.of_owns e4)
  have HE5 := Lib.hid (Sl.of_owns e5)
  have hm3 : m3 = (sOr X Y).length := by have := HE3.out.length; rw [u64s_len] at this; omega
  have hge := or_len_ge X Y HX1.out HX2.out
  rw [← hm3, HLX.out, HLY.out] at hge
  have HGE := Lib.hid hge
  have hux9 : Us w9 (.slice ax lx cx) X := own_below hux hb9
  have huy9 : Us w9 (.slice ay ly cy) Y := own_below huy hb9
  have HUX9 := Lib.hid hux9
  have HUY9 := Lib.hid huy9
  have HB9 := Lib.hid (HB8.out.trans (hb9.mono HB8.out.size))
  have hN0 : ((N : Int) == 0) = false := by rw [beq_eq_false_iff_ne]; omega
  clear ho9 hl9 hr9 hs9 hb9 hcell e3 e4 e5 hT ht1 ht2 hux huy hux9 huy9 hm3 hge HO7 HO8 HF7 HF8 HB7 HO15 HRW2 HUX5 HUY5 hs7 hs05 hq3
  go_wp2_with fail
  refine (roadbits_any _ X w9 HUX9.out (by rw [HLX.out]; omega)).mono ?_
  rintro e wa ⟨r1, m1, k1, rfl, hoa, hba⟩
  have HUYA := Lib.hid (show Us wa (.slice ay ly cy) Y from own_below HUY9.out hba)
  replace y3 := cell_below hba (Nat.le_refl _) y3
  replace y4 := cell_below hba (Nat.le_refl _) y4
  replace y5 := cell_below hba (Nat.le_refl _) y5
  have HE3a := Lib.hid (HE3.out.below rfl hba)
  have HE4a := Lib.hid (HE4.out.below rfl hba)
  have HE5a := Lib.hid (HE5.out.below rfl hba)
  have HBA := Lib.hid (HB9.out.trans (hba.mono HB9.out.size))
  have HOA := Lib.hid hoa
  clear hba hoa
  go_wp2_with fail
  refine (roadbits_any _ Y wa HUYA.out (by rw [HLY.out]; omega)).mono ?_
  rintro e wb ⟨r2, m2, k2, rfl, hob, hbb⟩
  have hal : Below wb.heap.size wb ((wb.alloc (.cells #[.int .u64 2048, .slice r1 m1 k1] 39)).alloc (.cells #[.int .u64 2048, .slice r2 m2 k2] 39)) := ((Below.refl _ _).alloc (Nat.le_refl _) _).alloc (by simp) _
  have kb1 := (Blk.new wb 39 #[.int .u64 2048, .slice r1 m1 k1]).alloc (.cells #[.int .u64 2048, .slice r2 m2 k2] 39)
  have kb2 := Blk.new (wb.alloc (.cells #[.int .u64 2048, .slice r1 m1 k1] 39)) 39 #[.int .u64 2048, .slice r2 m2 k2]
  rw [World.size_alloc] at kb2
  have hall := hbb.trans (hal.mono hbb.size)
  replace y3 := cell_below hall (Nat.le_refl _) y3
  replace y4 := cell_below hall (Nat.le_refl _) y4
  replace y5 := cell_below hall (Nat.le_refl _) y5
  have HE3b := Lib.hid (HE3a.out.below rfl hall)
  have HE4b := Lib.hid (HE4a.out.below rfl hall)
  have HE5b := Lib.hid (HE5a.out.below rfl hall)
  have HBB := Lib.hid (HBA.out.trans (hall.mono HBA.out.size))
  have hsla := (Sl.of_owns HOA.out).below rfl hall
  have hslb := (Sl.of_owns hob).below rfl hal
  obtain ⟨b1, hb1⟩ : ∃ b, wb.heap.size = b := ⟨_, rfl⟩
  obtain ⟨b2, hb2⟩ : ∃ b, wb.heap.size + 1 = b := ⟨_, rfl⟩
  obtain ⟨w0, hw0⟩ : ∃ w0, ((wb.alloc (.cells #[.int .u64 2048, .slice r1 m1 k1] 39)).alloc (.cells #[.int .u64 2048, .slice r2 m2 k2] 39)) = w0 := ⟨_, rfl⟩
  rw [hw0] at kb1 kb2 y3 y4 y5 HE3b HE4b HE5b HBB hsla hslb
  rw [hb1] at kb1
  rw [hb2] at kb2
  have hbx : bitsL_len X = bitsL_len X := rfl
  have hia : IsBits w0 (.agg #[.int .u64 2048, .slice r1 m1 k1]) (bitsL X) := ⟨_, by rw [bitsL_len]; rfl, by rw [bitsL_pos X HX1.out HXB.out]; exact hsla⟩
  have hib : IsBits w0 (.agg #[.int .u64 2048, .slice r2 m2 k2]) (bitsL Y) := ⟨_, by rw [bitsL_len]; rfl, by rw [bitsL_pos Y HX2.out HYB.out]; exact hslb⟩
  have hdr : Below w0.heap.size w0 w0.drew := (Below.refl _ _).drew
  have HA100 := Lib.hid (hia.below rfl hdr)
  have HB100 := Lib.hid (hib.below rfl hdr)
  have HP100 := Lib.hid (HE3b.out.below rfl hdr)
  have HQ100 := Lib.hid (HE4b.out.below rfl hdr)
  have HR100 := Lib.hid (HE5b.out.below rfl hdr)
  have HT100 : Hid (Below w0.heap.size w0 w0.drew) := Lib.hid hdr
  have x100 : w0.drew.cell? ⟨b1, 0, none⟩ = some (.int .u64 2048) := kb1.cell 0 rfl
  have y100 : w0.drew.cell? ⟨b1, 1, none⟩ = some (.slice r1 m1 k1) := kb1.cell 1 rfl
  have u100 : w0.drew.cell? ⟨b2, 0, none⟩ = some (.int .u64 2048) := kb2.cell 0 rfl
  have v100 : w0.drew.cell? ⟨b2, 1, none⟩ = some (.slice r2 m2 k2) := kb2.cell 1 rfl
  have p100 : w0.drew.cell? ⟨g8, J1 * 4 + 2, none⟩ = some (.slice v3 m3 d3) := y3
  have q100 : w0.drew.cell? ⟨g8, J2 * 4 + 2, none⟩ = some (.slice v4 m4 d4) := y4
  have r100 : w0.drew.cell? ⟨g8, J3 * 4 + 2, none⟩ = some (.slice v5 m5 d5) := y5
  have HL1 := Lib.hid (show (bitsL X).length ≤ 3000 by rw [bitsL_len]; omega)
  have HL2 := Lib.hid (show (bitsL Y).length ≤ 3000 by rw [bitsL_len]; omega)
  have HL3 : Hid ((bitsL Y).length = (bitsL X).length) := Lib.hid (by rw [bitsL_len, bitsL_len])
  have HE0 := Lib.hid (pos_or X Y HX1.out HX2.out HXB.out HYB.out)
  have HE1 := Lib.hid (pos_and X Y HX1.out HX2.out HXB.out HYB.out)
  have HE2 := Lib.hid (pos_nand X Y HX1.out HX2.out HXB.out HYB.out)
  clear hal kb1 kb2 hall y3 y4 y5 hsla hslb hia hib hdr hob hbb hbx
  have hja1 : IntKind.i64.wrap ((N : Int) - 3) = (J1 : Int) := by rw [IntWalk.i64_in _ (by omega)]; omega
  have hja2 : IntKind.i64.wrap ((N : Int) - 2) = (J2 : Int) := by rw [IntWalk.i64_in _ (by omega)]; omega
  have hja3 : IntKind.i64.wrap ((N : Int) - 1) = (J3 : Int) := by rw [IntWalk.i64_in _ (by omega)]; omega
  have ja1 : J1 < N := by omega
  have ja2 : J2 < N := by omega
  have ja3 : J3 < N := by omega
  have jb1 : (J1 : Int) < (N : Int) := by omega
  have jb2 : (J2 : Int) < (N : Int) := by omega
  have jb3 : (J3 : Int) < (N : Int) := by omega
  have jc1 : (0 : Int) ≤ (J1 : Int) := by omega
  have jc2 : (0 : Int) ≤ (J2 : Int) := by omega
  have jc3 : (0 : Int) ≤ (J3 : Int) := by omega
  have G1 := Lib.hid hb1
  have G2 := Lib.hid hb2
  have G0 := Lib.hid hw0
  clear hJ1 hJ2 hJ3 hN3 hw0 hb1 hb2
  go_wp2_with fail
  rw [G0.out, G2.out, G1.out]
  clear G0 G1 G2
  go_region_held3 (fun w' => w'.cell? ⟨b1, 0, none⟩ = some (.int .u64 2048) ∧ w'.cell? ⟨b1, 1, none⟩ = some (.slice r1 m1 k1) ∧ w'.cell? ⟨b2, 0, none⟩ = some (.int .u64 2048) ∧ w'.cell? ⟨b2, 1, none⟩ = some (.slice r2 m2 k2) ∧ w'.cell? ⟨g8, J1 * 4 + 2, none⟩ = some (.slice v3 m3 d3) ∧ w'.cell? ⟨g8, J2 * 4 + 2, none⟩ = some (.slice v4 m4 d4) ∧ w'.cell? ⟨g8, J3 * 4 + 2, none⟩ = some (.slice v5 m5 d5))
    ((first | (go_keep; done) | exact ⟨x100, y100, u100, v100, p100, q100, r100⟩ | with_reducible assumption | exact ⟨by with_reducible assumption, by with_reducible assumption, by with_reducible assumption, by with_reducible assumption, by with_reducible assumption, by with_reducible assumption, by with_reducible assumption⟩))
    ((first
        | (go_at_call 8; refine Calls.mono (sameroad_any _ _ _ _ _ HSB2.out HR105.out) ?_; rintro e w106 ⟨rfl, hb106⟩; have HT106 : Hid (Below w0.heap.size w0 w106) := Lib.hid (HT105.out.trans (hb106.mono HT105.out.size)); have HA106 := Lib.hid (HA105.out.below rfl hb106); have HB106 := Lib.hid (HB105.out.below rfl hb106); have HP106 := Lib.hid (HP105.out.below rfl hb106); have HQ106 := Lib.hid (HQ105.out.below rfl hb106); have HR106 := Lib.hid (HR105.out.below rfl hb106); have x106 : w106.cell? ⟨b1, 0, none⟩ = some (.int .u64 2048) := cell_below hb106 (Nat.le_refl _) x105; have y106 : w106.cell? ⟨b1, 1, none⟩ = some (.slice r1 m1 k1) := cell_below hb106 (Nat.le_refl _) y105; have u106 : w106.cell? ⟨b2, 0, none⟩ = some (.int .u64 2048) := cell_below hb106 (Nat.le_refl _) u105; have v106 : w106.cell? ⟨b2, 1, none⟩ = some (.slice r2 m2 k2) := cell_below hb106 (Nat.le_refl _) v105; have p106 : w106.cell? ⟨g8, J1 * 4 + 2, none⟩ = some (.slice v3 m3 d3) := cell_below hb106 (Nat.le_refl _) p105; have q106 : w106.cell? ⟨g8, J2 * 4 + 2, none⟩ = some (.slice v4 m4 d4) := cell_below hb106 (Nat.le_refl _) q105; have r106 : w106.cell? ⟨g8, J3 * 4 + 2, none⟩ = some (.slice v5 m5 d5) := cell_below hb106 (Nat.le_refl _) r105; clear hb106)
        | (go_at_call 11; refine Calls.mono (bsdif_any _ _ (bitsL X) (bitsL Y) _ HA104.out HB104.out HL1.out HL2.out HL3) ?_; rintro e w105 ⟨vb2, cs2, rfl, hob2, hps2, hcl2, hb105⟩; have HT105 : Hid (Below w0.heap.size w0 w105) := Lib.hid (HT104.out.trans (hb105.mono HT104.out.size)); have HA105 := Lib.hid (HA104.out.below rfl hb105); have HB105 := Lib.hid (HB104.out.below rfl hb105); have HP105 := Lib.hid (HP104.out.below rfl hb105); have HQ105 := Lib.hid (HQ104.out.below rfl hb105); have HR105 := Lib.hid (HR104.out.below rfl hb105); have x105 : w105.cell? ⟨b1, 0, none⟩ = some (.int .u64 2048) := cell_below hb105 (Nat.le_refl _) x104; have y105 : w105.cell? ⟨b1, 1, none⟩ = some (.slice r1 m1 k1) := cell_below hb105 (Nat.le_refl _) y104; have u105 : w105.cell? ⟨b2, 0, none⟩ = some (.int .u64 2048) := cell_below hb105 (Nat.le_refl _) u104; have v105 : w105.cell? ⟨b2, 1, none⟩ = some (.slice r2 m2 k2) := cell_below hb105 (Nat.le_refl _) v104; have p105 : w105.cell? ⟨g8, J1 * 4 + 2, none⟩ = some (.slice v3 m3 d3) := cell_below hb105 (Nat.le_refl _) p104; have q105 : w105.cell? ⟨g8, J2 * 4 + 2, none⟩ = some (.slice v4 m4 d4) := cell_below hb105 (Nat.le_refl _) q104; have r105 : w105.cell? ⟨g8, J3 * 4 + 2, none⟩ = some (.slice v5 m5 d5) := cell_below hb105 (Nat.le_refl _) r104; obtain ⟨pp2, mm2, ccc2, rfl, hoo2⟩ := hob2; have HSB2 := Lib.hid (Sl.of_owns hoo2); rw [hps2, HE2.out] at HSB2; clear hps2 hcl2 hoo2; clear hb105)
        | (go_at_call 8; refine Calls.mono (sameroad_any _ _ _ _ _ HSB1.out HQ103.out) ?_; rintro e w104 ⟨rfl, hb104⟩; have HT104 : Hid (Below w0.heap.size w0 w104) := Lib.hid (HT103.out.trans (hb104.mono HT103.out.size)); have HA104 := Lib.hid (HA103.out.below rfl hb104); have HB104 := Lib.hid (HB103.out.below rfl hb104); have HP104 := Lib.hid (HP103.out.below rfl hb104); have HQ104 := Lib.hid (HQ103.out.below rfl hb104); have HR104 := Lib.hid (HR103.out.below rfl hb104); have x104 : w104.cell? ⟨b1, 0, none⟩ = some (.int .u64 2048) := cell_below hb104 (Nat.le_refl _) x103; have y104 : w104.cell? ⟨b1, 1, none⟩ = some (.slice r1 m1 k1) := cell_below hb104 (Nat.le_refl _) y103; have u104 : w104.cell? ⟨b2, 0, none⟩ = some (.int .u64 2048) := cell_below hb104 (Nat.le_refl _) u103; have v104 : w104.cell? ⟨b2, 1, none⟩ = some (.slice r2 m2 k2) := cell_below hb104 (Nat.le_refl _) v103; have p104 : w104.cell? ⟨g8, J1 * 4 + 2, none⟩ = some (.slice v3 m3 d3) := cell_below hb104 (Nat.le_refl _) p103; have q104 : w104.cell? ⟨g8, J2 * 4 + 2, none⟩ = some (.slice v4 m4 d4) := cell_below hb104 (Nat.le_refl _) q103; have r104 : w104.cell? ⟨g8, J3 * 4 + 2, none⟩ = some (.slice v5 m5 d5) := cell_below hb104 (Nat.le_refl _) r103; clear hb104)
        | (go_at_call 10; refine Calls.mono (bsinter_any _ _ (bitsL X) (bitsL Y) _ HA102.out HB102.out HL1.out HL2.out HL3) ?_; rintro e w103 ⟨vb1, cs1, rfl, hob1, hps1, hcl1, hb103⟩; have HT103 : Hid (Below w0.heap.size w0 w103) := Lib.hid (HT102.out.trans (hb103.mono HT102.out.size)); have HA103 := Lib.hid (HA102.out.below rfl hb103); have HB103 := Lib.hid (HB102.out.below rfl hb103); have HP103 := Lib.hid (HP102.out.below rfl hb103); have HQ103 := Lib.hid (HQ102.out.below rfl hb103); have HR103 := Lib.hid (HR102.out.below rfl hb103); have x103 : w103.cell? ⟨b1, 0, none⟩ = some (.int .u64 2048) := cell_below hb103 (Nat.le_refl _) x102; have y103 : w103.cell? ⟨b1, 1, none⟩ = some (.slice r1 m1 k1) := cell_below hb103 (Nat.le_refl _) y102; have u103 : w103.cell? ⟨b2, 0, none⟩ = some (.int .u64 2048) := cell_below hb103 (Nat.le_refl _) u102; have v103 : w103.cell? ⟨b2, 1, none⟩ = some (.slice r2 m2 k2) := cell_below hb103 (Nat.le_refl _) v102; have p103 : w103.cell? ⟨g8, J1 * 4 + 2, none⟩ = some (.slice v3 m3 d3) := cell_below hb103 (Nat.le_refl _) p102; have q103 : w103.cell? ⟨g8, J2 * 4 + 2, none⟩ = some (.slice v4 m4 d4) := cell_below hb103 (Nat.le_refl _) q102; have r103 : w103.cell? ⟨g8, J3 * 4 + 2, none⟩ = some (.slice v5 m5 d5) := cell_below hb103 (Nat.le_refl _) r102; obtain ⟨pp1, mm1, ccc1, rfl, hoo1⟩ := hob1; have HSB1 := Lib.hid (Sl.of_owns hoo1); rw [hps1, HE1.out] at HSB1; clear hps1 hcl1 hoo1; clear hb103)
        | (go_at_call 8; refine Calls.mono (sameroad_any _ _ _ _ _ HSB0.out HP101.out) ?_; rintro e w102 ⟨rfl, hb102⟩; have HT102 : Hid (Below w0.heap.size w0 w102) := Lib.hid (HT101.out.trans (hb102.mono HT101.out.size)); have HA102 := Lib.hid (HA101.out.below rfl hb102); have HB102 := Lib.hid (HB101.out.below rfl hb102); have HP102 := Lib.hid (HP101.out.below rfl hb102); have HQ102 := Lib.hid (HQ101.out.below rfl hb102); have HR102 := Lib.hid (HR101.out.below rfl hb102); have x102 : w102.cell? ⟨b1, 0, none⟩ = some (.int .u64 2048) := cell_below hb102 (Nat.le_refl _) x101; have y102 : w102.cell? ⟨b1, 1, none⟩ = some (.slice r1 m1 k1) := cell_below hb102 (Nat.le_refl _) y101; have u102 : w102.cell? ⟨b2, 0, none⟩ = some (.int .u64 2048) := cell_below hb102 (Nat.le_refl _) u101; have v102 : w102.cell? ⟨b2, 1, none⟩ = some (.slice r2 m2 k2) := cell_below hb102 (Nat.le_refl _) v101; have p102 : w102.cell? ⟨g8, J1 * 4 + 2, none⟩ = some (.slice v3 m3 d3) := cell_below hb102 (Nat.le_refl _) p101; have q102 : w102.cell? ⟨g8, J2 * 4 + 2, none⟩ = some (.slice v4 m4 d4) := cell_below hb102 (Nat.le_refl _) q101; have r102 : w102.cell? ⟨g8, J3 * 4 + 2, none⟩ = some (.slice v5 m5 d5) := cell_below hb102 (Nat.le_refl _) r101; clear hb102)
        | (go_at_call 9; refine Calls.mono (bsunion_any _ _ (bitsL X) (bitsL Y) _ HA100.out HB100.out HL1.out HL2.out HL3) ?_; rintro e w101 ⟨vb0, cs0, rfl, hob0, hps0, hcl0, hb101⟩; have HT101 : Hid (Below w0.heap.size w0 w101) := Lib.hid (HT100.out.trans (hb101.mono HT100.out.size)); have HA101 := Lib.hid (HA100.out.below rfl hb101); have HB101 := Lib.hid (HB100.out.below rfl hb101); have HP101 := Lib.hid (HP100.out.below rfl hb101); have HQ101 := Lib.hid (HQ100.out.below rfl hb101); have HR101 := Lib.hid (HR100.out.below rfl hb101); have x101 : w101.cell? ⟨b1, 0, none⟩ = some (.int .u64 2048) := cell_below hb101 (Nat.le_refl _) x100; have y101 : w101.cell? ⟨b1, 1, none⟩ = some (.slice r1 m1 k1) := cell_below hb101 (Nat.le_refl _) y100; have u101 : w101.cell? ⟨b2, 0, none⟩ = some (.int .u64 2048) := cell_below hb101 (Nat.le_refl _) u100; have v101 : w101.cell? ⟨b2, 1, none⟩ = some (.slice r2 m2 k2) := cell_below hb101 (Nat.le_refl _) v100; have p101 : w101.cell? ⟨g8, J1 * 4 + 2, none⟩ = some (.slice v3 m3 d3) := cell_below hb101 (Nat.le_refl _) p100; have q101 : w101.cell? ⟨g8, J2 * 4 + 2, none⟩ = some (.slice v4 m4 d4) := cell_below hb101 (Nat.le_refl _) q100; have r101 : w101.cell? ⟨g8, J3 * 4 + 2, none⟩ = some (.slice v5 m5 d5) := cell_below hb101 (Nat.le_refl _) r100; obtain ⟨pp0, mm0, ccc0, rfl, hoo0⟩ := hob0; have HSB0 := Lib.hid (Sl.of_owns hoo0); rw [hps0, HE0.out] at HSB0; clear hps0 hcl0 hoo0; clear hb101)
        | fail))
  have hmx : decide ((if lx < ly then (ly : Int) else (lx : Int)) ≤ (m3 : Int)) = true := by
    have := HGE.out
    rw [decide_eq_true_iff]
    split <;> omega
  rw [hmx]
  have HFIN := Lib.hid (HBB.out.trans (HT106.out.mono HBB.out.size))
  clear HA HB HAB HBB HX1 HXB HX2 HYB HK1 HK2 HN1 HN2 HE3 HE4 HE5 HE3a HE4a HE5a HE3b HE4b HE5b HGE hmx HT106 HT105 HT104 HT103 HT102 HT101 HT100
  clear HA100 HB100 HP100 HQ100 HR100 HA101 HB101 HP101 HQ101 HR101 HA102 HB102 HP102 HQ102 HR102 HA103 HB103 HP103 HQ103 HR103 HA104 HB104 HP104 HQ104 HR104 HA105 HB105 HP105 HQ105 HR105 HA106 HB106 HP106 HQ106 HR106
  clear x101 y101 u101 v101 p101 q101 r101 x102 y102 u102 v102 p102 q102 r102 x103 y103 u103 v103 p103 q103 r103 x104 y104 u104 v104 p104 q104 r104 x105 y105 u105 v105 p105 q105 r105 x106 y106 u106 v106 p106 q106 r106
  clear ja1 ja2 ja3 jb1 jb2 jb3 jc1 jc2 jc3 hja1 hja2 hja3
  clear x100 y100 u100 v100 p100 q100 r100
  refine (‹∀ (a : Act) (w : World), Code.wp _ Code.ret _ a w → _›) _ _ ?_
  refine wp_ret ?_
  have hfin := HFIN.out
  refine bodyPost_ret (v := .bool true) ?_ rfl ⟨rfl, hfin⟩
  refine (results_tmp rfl _ _ _).trans ?_
  refine congrArg (fun x => Result.ok x w106) ?_
  show Value.bool true = Value.bool true
  rfl
end Go.Proofs.YtgifbdjifmoafaaGreat
