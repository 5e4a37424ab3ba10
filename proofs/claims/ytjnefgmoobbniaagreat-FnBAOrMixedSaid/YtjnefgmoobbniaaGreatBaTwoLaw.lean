/- Walk of laws.baTwo, whatever the arrays and the functions handed in. -/
import Derived.Test.YtjnefgmoobbniaaGreatBaAndSp
import Derived.Test.YtjnefgmoobbniaaGreatBaMade2
import Derived.Deep.QuietTactic
import Derived.BigQuiet
import Derived.IntWalk
namespace Go.Proofs.YtjnefgmoobbniaaGreat
set_option linter.unusedVariables false
open Go.RowKit Bam

/-- baMade makes the steps ss and the reference's array of the set S -/
def MadeC (d : Bool) (sz : Int) (v : Value) (on : Nat) (ss : List Stp) (wd : Nat) (S : List Nat) (w : World) : Prop :=
  Calls Tryz.prog 18 #[.bool d, .int .u16 sz, v, .int .i64 (on : Int)] w fun e w' =>
    ∃ (pa : Option Addr) (ca : Nat) (sv : Value), e = .returned (.tuple #[.slice pa ss.length ca, .agg #[.bool d, .int .u64 (wd : Int), sv]]) ∧ w'.ownsRow w.heap.size 40 6 (.slice pa ss.length ca) ss.length (ss.map stpRow).flatten ∧ Us w' sv S ∧ Below w.heap.size w w'
/-- function f lets two reference arrays in, or not -/
def FitsC (f : FuncId) (x y : Bool) (wd1 wd2 : Nat) (S1 S2 : List Nat) (b : Bool) : Prop := ∀ (w : World) (s1 s2 : Value), Us w s1 S1 → Us w s2 S2 →
  Calls Tryz.prog f #[.agg #[.bool x, .int .u64 (wd1 : Int), s1], .agg #[.bool y, .int .u64 (wd2 : Int), s2]] w fun e w' => e = .returned (.bool b) ∧ Below w.heap.size w w'
/-- function f makes the set S3 of two sets -/
def SetsC (f : FuncId) (S1 S2 S3 : List Nat) : Prop := ∀ (w : World) (s1 s2 : Value), Us w s1 S1 → Us w s2 S2 →
  Calls Tryz.prog f #[s1, s2] w fun e w' => ∃ v, e = .returned v ∧ Us w' v S3 ∧ Below w.heap.size w w'

theorem stpRow6 (ss : List Stp) : ∀ r ∈ ss.map stpRow, r.length = 6 := by
  intro r hr
  obtain ⟨s, _, rfl⟩ := List.mem_map.1 hr
  rfl
theorem stpRow_one (ss : List Stp) : ∀ u ∈ (ss.map stpRow).flatten, u.oneCell' = true := by
  intro u hu
  obtain ⟨r, hr, hu⟩ := List.mem_flatten.1 hu
  obtain ⟨s, _, rfl⟩ := List.mem_map.1 hr
  simp [stpRow] at hu
  rcases hu with rfl | rfl | rfl | rfl | rfl | rfl <;> rfl
def tailS (op : Nat) : List Stp := [⟨op, 0, 1, 0, 0, false⟩, ⟨14, 2, 0, 0, 0, false⟩, ⟨10, 2, 0, 0, 0, false⟩, ⟨15, 2, 0, 0, 0, false⟩, ⟨14, 0, 0, 0, 0, false⟩, ⟨14, 1, 0, 0, 0, false⟩]
def tailA (W S1 S2 : List Nat) : List An := [⟨false, 0, []⟩, ⟨false, 0, W⟩, ⟨false, W.length, []⟩, ⟨decide (W.length = 0), 0, []⟩, ⟨false, 0, S1⟩, ⟨false, 0, S2⟩]

def tailV (op : Nat) : Array Value := #[.int .i64 (op : Int), .int .i64 0, .int .i64 1, .int .u64 0, .int .i64 0, .bool false, .int .i64 14, .int .i64 2, .int .i64 0, .int .u64 0, .int .i64 0, .bool false, .int .i64 10, .int .i64 2, .int .i64 0, .int .u64 0, .int .i64 0, .bool false, .int .i64 15, .int .i64 2, .int .i64 0, .int .u64 0, .int .i64 0, .bool false, .int .i64 14, .int .i64 0, .int .i64 0, .int .u64 0, .int .i64 0, .bool false, .int .i64 14, .int .i64 1, .int .i64 0, .int .u64 0, .int .i64 0, .bool false]

set_option maxRecDepth 100000 in
set_option maxHeartbeats 4000000 in
theorem batwo_any (op : Nat) (x y : Bool) (z0 z1 : Int) (va vb : Value) (fm ff : FuncId) (hcm : ∀ (args : Array Value) (w : World), (callFunc fm args).run Tryz.prog w = .ok (.enter fm args) w) (hcf : ∀ (args : Array Value) (w : World), (callFunc ff args).run Tryz.prog w = .ok (.enter ff args) w)
    (ss1 ss2 : List Stp) (ts1 ts2 : List An) (wd1 wd2 : Nat) (S1 S2 W : List Nat) (A B C : Arr) (fit : Bool) (w : World)
    (hm1 : ∀ w', Below w.heap.size w w' → MadeC x z0 va 0 ss1 wd1 S1 w') (hm2 : ∀ w', Below w.heap.size w w' → MadeC y z1 vb 1 ss2 wd2 S2 w')
    (hr1 : Runs [] ss1 ts1 [A]) (hr2 : Runs [A] ss2 ts2 [A, B]) (hl1 : ss1.length ≤ 41) (hl2 : ss2.length ≤ 41)
    (hfit : FitsC ff x y wd1 wd2 S1 S2 fit) (hmk : fit = true → SetsC fm S1 S2 W) (hrT : fit = true → Runs [A, B] (tailS op) (tailA W S1 S2) [A, B, C])
    (hS1 : S1.length ≤ 100000) (hS2 : S2.length ≤ 100000) (hW : W.length ≤ 100000) (hop : op ≤ 100) :
    Calls Tryz.prog 8 #[.int .i64 (op : Int), .bool x, .bool y, .agg #[.int .u16 z0, .int .u16 z1], va, vb, .func (.func fm) #[] #[], .func (.func ff) #[] #[]] w fun e w' => e = .returned (.bool true) ∧ Below w.heap.size w w' := by
  have HM1 := Lib.hid hm1
  have HM2 := Lib.hid hm2
  have HR1 := Lib.hid hr1
  have HR2 := Lib.hid hr2
  have HFIT := Lib.hid hfit
  have HMK := Lib.hid hmk
  have HRT := Lib.hid hrT
  have HS1 := Lib.hid hS1
  have HS2 := Lib.hid hS2
  have HW := Lib.hid hW
  have HCM := Lib.hid hcm
  clear hm1 hm2 hr1 hr2 hfit hmk hrT hS1 hS2 hW hcm
  obtain ⟨n1, hn1⟩ : ∃ n, ss1.length = n := ⟨_, rfl⟩
  obtain ⟨n2, hn2⟩ : ∃ n, ss2.length = n := ⟨_, rfl⟩
  rw [hn1] at hl1
  rw [hn2] at hl2
  have HN1 := Lib.hid hn1
  have HN2 := Lib.hid hn2
  clear hn1 hn2
  go_enter Tryz.func8, Tryz.ntmps8
  go_wp2_with fail
  have hb0 : Below w.heap.size w (w.alloc (.cells #[.int .u16 z0, .int .u16 z1] 23)) := (Below.refl _ _).alloc (Nat.le_refl _) _
  have x0 : (w.alloc (.cells #[.int .u16 z0, .int .u16 z1] 23)).cell? ⟨w.heap.size, 1, none⟩ = some (.int .u16 z1) := (Blk.new w _ _).cell 1 rfl
  obtain ⟨w0, hw0⟩ : ∃ w0, w.alloc (.cells #[.int .u16 z0, .int .u16 z1] 23) = w0 := ⟨_, rfl⟩
  rw [hw0] at hb0 x0 ⊢
  have hk1 := HM1.out w0 hb0
  unfold MadeC at hk1
  rw [HN1.out] at hk1
  refine hk1.mono ?_
  have HB0 := Lib.hid hb0
  clear hk1 hw0 hb0
  rintro e w1 ⟨pa, ca, sv1, rfl, ho1, hu1, hb1⟩
  obtain ⟨av, cv, rfl, -⟩ := hu1.shape
  obtain ⟨D1, hD1⟩ : ∃ D, S1.length = D := ⟨_, rfl⟩
  rw [hD1] at hu1 ⊢
  have x1 := cell_below hb1 (Nat.le_refl _) x0
  have hb1 := HB0.out.trans (hb1.mono HB0.out.size)
  have HO1 := Lib.hid (own_base ho1 HB0.out.size)
  have HU1 := Lib.hid hu1
  have HD1 := Lib.hid hD1
  have hq1 := Blk.new w1 36 #[.bool x, .int .u64 (wd1 : Int), .slice av D1 cv]
  have hb2 : Below w.heap.size w (w1.alloc (.cells #[.bool x, .int .u64 (wd1 : Int), .slice av D1 cv] 36)) := hb1.alloc hb1.size _
  have ho2 := HO1.out.alloc (.cells #[.bool x, .int .u64 (wd1 : Int), .slice av D1 cv] 36)
  have hu2 : Us (w1.alloc (.cells #[.bool x, .int .u64 (wd1 : Int), .slice av D1 cv] 36)) (.slice av D1 cv) S1 := own_below hu1 ((Below.refl _ _).alloc (Nat.le_refl _) _)
  have x2 : (w1.alloc (.cells #[.bool x, .int .u64 (wd1 : Int), .slice av D1 cv] 36)).cell? ⟨w.heap.size, 1, none⟩ = some (.int .u16 z1) := cell_below ((Below.refl _ _).alloc (Nat.le_refl _) _) (Nat.le_refl _) x1
  obtain ⟨q1, hq⟩ : ∃ q, w1.heap.size = q := ⟨_, rfl⟩
  rw [hq] at hq1
  have HQE := Lib.hid hq
  clear x0 x1 ho1 hu1 hb1 hD1 hq
  go_wp2_with fail
  rw [HQE.out]
  obtain ⟨w2, hw2⟩ : ∃ w2, w1.alloc (.cells #[.bool x, .int .u64 (wd1 : Int), .slice av D1 cv] 36) = w2 := ⟨_, rfl⟩
  rw [hw2] at hq1 hb2 ho2 hu2 x2 ⊢
  have hk2 := HM2.out w2 hb2
  unfold MadeC at hk2
  rw [HN2.out] at hk2
  refine hk2.mono ?_
  have HQ2 := Lib.hid hq1
  have HB2 := Lib.hid hb2
  have HO2 := Lib.hid ho2
  have HU2 := Lib.hid hu2
  clear hk2 hw2 hq1 hb2 ho2 hu2 x2
  rintro e w3 ⟨pb, cb, sv2, rfl, ho3, hu3, hb3⟩
  obtain ⟨bv, dv, rfl, -⟩ := hu3.shape
  obtain ⟨D2, hD2⟩ : ∃ D, S2.length = D := ⟨_, rfl⟩
  rw [hD2] at hu3 ⊢
  have HD2 := Lib.hid hD2
  have hal : Below w3.heap.size w3 (w3.alloc (.cells #[.bool y, .int .u64 (wd2 : Int), .slice bv D2 dv] 36)) := (Below.refl _ _).alloc (Nat.le_refl _) _
  have hb23 : Below w2.heap.size w2 (w3.alloc (.cells #[.bool y, .int .u64 (wd2 : Int), .slice bv D2 dv] 36)) := hb3.alloc hb3.size _
  have hb4 : Below w.heap.size w (w3.alloc (.cells #[.bool y, .int .u64 (wd2 : Int), .slice bv D2 dv] 36)) := HB2.out.trans (hb23.mono HB2.out.size)
  have hq24 := Blk.new w3 36 #[.bool y, .int .u64 (wd2 : Int), .slice bv D2 dv]
  have hq14 : Blk (w3.alloc (.cells #[.bool y, .int .u64 (wd2 : Int), .slice bv D2 dv] 36)) q1 36 #[.bool x, .int .u64 (wd1 : Int), .slice av D1 cv] := (hb23.block q1 HQ2.out.lt).trans HQ2.out
  have ho14 := own_below HO2.out hb23
  have ho24 := own_base (ho3.alloc (.cells #[.bool y, .int .u64 (wd2 : Int), .slice bv D2 dv] 36)) HB2.out.size
  have hu14 : Us (w3.alloc (.cells #[.bool y, .int .u64 (wd2 : Int), .slice bv D2 dv] 36)) (.slice av D1 cv) S1 := own_below HU2.out hb23
  have hu24 : Us (w3.alloc (.cells #[.bool y, .int .u64 (wd2 : Int), .slice bv D2 dv] 36)) (.slice bv D2 dv) S2 := own_below hu3 hal
  have hqlt : q1 < w3.heap.size := Nat.lt_of_lt_of_le HQ2.out.lt hb3.size
  have HAP := Lib.hid (show ∀ k ∈ obl (.slice pa n1 ca), k ∉ obl (.slice pb n2 cb) from fun k h1 h2 => by
    have e1 := (own_lt HO2.out k h1).1
    have e2 := (own_lt ho3 k h2).2
    omega)
  have k0 := hq14.cell 0 rfl
  have k1 := hq14.cell 1 rfl
  have k2 := hq14.cell 2 rfl
  have HQ14 := Lib.hid hq14
  have HQ24 := Lib.hid hq24
  have HO14 := Lib.hid ho14
  have HO24 := Lib.hid ho24
  have HU14 := Lib.hid hu14
  have HU24 := Lib.hid hu24
  have HB4 := Lib.hid hb4
  clear hD2 hal hb23 ho3 hu3 hb3 hq14 hq24 ho14 ho24 hu14 hu24 hb4 hb1
  go_wp2_with fail
  obtain ⟨w4, hw4⟩ : ∃ w4, w3.alloc (.cells #[.bool y, .int .u64 (wd2 : Int), .slice bv D2 dv] 36) = w4 := ⟨_, rfl⟩
  obtain ⟨q2, hq2⟩ : ∃ q, w3.heap.size = q := ⟨_, rfl⟩
  rw [hw4] at HQ14 HQ24 HO14 HO24 HU14 HU24 HB4 ⊢
  rw [hq2] at HQ24 hqlt ⊢
  have hfc := HFIT.out w4 (.slice av D1 cv) (.slice bv D2 dv) HU14.out HU24.out
  refine hfc.mono ?_
  clear hfc k0 k1 k2 hw4 hq2
  rintro e w5 ⟨rfl, hb5⟩
  cases fit with
  | false =>
    have HB5 := Lib.hid hb5
    clear hb5
    go_wp2_with fail
    go_ret
    exact ⟨rfl, HB4.out.trans (HB5.out.mono HB4.out.size)⟩
  | true =>
    have hs4 := HB4.out.size
    have hs5 := hb5.size
    have hb05 : Below w.heap.size w w5 := HB4.out.trans (hb5.mono HB4.out.size)
    have ho15 := own_below HO14.out hb5
    have ho25 := own_below HO24.out hb5
    have hq15 : Blk w5 q1 36 #[.bool x, .int .u64 (wd1 : Int), .slice av D1 cv] := (hb5.block q1 HQ14.out.lt).trans HQ14.out
    have hq25 : Blk w5 q2 36 #[.bool y, .int .u64 (wd2 : Int), .slice bv D2 dv] := (hb5.block q2 HQ24.out.lt).trans HQ24.out
    have hu15 : Us w5 (.slice av D1 cv) S1 := own_below HU14.out hb5
    have hu25 : Us w5 (.slice bv D2 dv) S2 := own_below HU24.out hb5
    have hrw2 : Rw 6 w5 (.slice pb n2 cb) (ss2.map stpRow) := Rw.of_owns (S := 6) (stpRow6 ss2) (by decide) ho25
    have HO15 := Lib.hid ho15
    have HQ15 := Lib.hid hq15
    have HQ25 := Lib.hid hq25
    have HU15 := Lib.hid hu15
    have HU25 := Lib.hid hu25
    have HRW2 := Lib.hid hrw2
    have HB05 := Lib.hid hb05
    have hs05 := hb05.size
    have hlm : (ss2.map stpRow).length = n2 := by rw [List.length_map]; exact HN2.out
    have hmx1 : n1 + (ss2.map stpRow).length ≤ maxLen := by rw [hlm]; unfold maxLen; omega
    have hmy1 : (n1 + (ss2.map stpRow).length) * 48 ≤ 140737488355328 := by rw [hlm]; omega
    have hmx2 : n1 + (ss2.map stpRow).length + ((tailS op).map stpRow).length ≤ maxLen := by rw [hlm]; show n1 + n2 + 6 ≤ maxLen; unfold maxLen; omega
    have hmy2 : (n1 + (ss2.map stpRow).length + ((tailS op).map stpRow).length) * 48 ≤ 140737488355328 := by rw [hlm]; show (n1 + n2 + 6) * 48 ≤ _; omega
    have HMX1 := Lib.hid hmx1
    have HMY1 := Lib.hid hmy1
    have HMX2 := Lib.hid hmx2
    have HMY2 := Lib.hid hmy2
    clear hb05 ho15 ho25 hq15 hq25 hu15 hu25 hrw2 hlm hmx1 hmy1 hmx2 hmy2 hb5 hs4 hs5
    go_wp2_with (first
      | (at_builtin; refine wpList_apRw rfl (.tmp 45) (.tmp 46) 33 rfl w.heap.size 6 40 (.agg #[.int .i64 0, .int .i64 0, .int .i64 0, .int .u64 0, .int .i64 0, .bool false]) 48 Tryz.underlying33 info_stepm rfl (by decide) (.slice pa n1 ca) n1 (ss1.map stpRow).flatten rfl HO15.out (.slice pb n2 cb) (ss2.map stpRow) rfl HRW2.out (stpRow6 ss2) (stpRow_one ss2) HMX1.out HMY1.out hs05 ?_; intro p6 m6 c6 w6 hown6 hg6 hb6; have HO6 := Lib.hid hown6; have HF6 := Lib.hid (Fr.of_grown (v' := .slice pa n1 ca) hg6 (fun k hk => .inl hk)); have HB6 := Lib.hid (HB05.out.trans hb6); have hs6 := HB6.out.size; clear hown6 hg6 hb6)
      | (at_builtin; refine wpList_apRw rfl (.tmp 47) (.tmp 55) 33 rfl w.heap.size 6 40 (.agg #[.int .i64 0, .int .i64 0, .int .i64 0, .int .u64 0, .int .i64 0, .bool false]) 48 Tryz.underlying33 info_stepm rfl (by decide) (.slice p6 m6 c6) _ _ rfl (HO6.out.alloc _) (.slice (some ⟨w6.heap.size, 0, none⟩) 6 6) ((tailS op).map stpRow) rfl (rw_new w6 40 (tailV op) ((tailS op).map stpRow) (stpRow6 _) rfl 6 rfl (by decide)) (stpRow6 _) (stpRow_one _) HMX2.out HMY2.out (by rw [World.size_alloc]; omega) ?_; intro p7 m7 c7 w7 hown7 hg7 hb7; have HO7 := Lib.hid hown7; have HF7 := Lib.hid (Fr.of_grown (v' := .slice p6 m6 c6) hg7 (fun k hk => .inl hk)); have HB7 := Lib.hid ((HB6.out.alloc hs6 _).trans hb7); clear hown7 hg7 hb7))
    have hrow7 : Rw 6 w7 (.slice p7 m7 c7) ((ss1 ++ ss2 ++ tailS op).map stpRow) := by
      have h := HO7.out
      exact Rw.of_owns (S := 6) (stpRow6 _) (by decide) (by rw [List.map_append, List.map_append, List.flatten_append, List.flatten_append]; exact h)
    have hruns : Runs [] (ss1 ++ ss2 ++ tailS op) (ts1 ++ ts2 ++ tailA W S1 S2) [A, B, C] := (HR1.out.append HR2.out).append (HRT.out trivial)
    have hN : (ss1 ++ ss2 ++ tailS op).length = n1 + n2 + 6 := by rw [List.length_append, List.length_append, HN1.out, HN2.out]; rfl
    have hans := answers_any _ _ _ _ w7 hrow7 hruns (by rw [hN]; omega) (by rw [hN]; omega)
    rw [hN] at hans
    have ht1 : ts1.length = n1 := HR1.out.len.trans HN1.out
    have ht2 : ts2.length = n2 := HR2.out.len.trans HN2.out
    obtain ⟨N, hN3⟩ : ∃ N, n1 + n2 + 6 = N := ⟨_, rfl⟩
    rw [hN3] at hans
    -- the arrays' boxes and sets
    have hq17 : Blk w7 q1 36 #[.bool x, .int .u64 (wd1 : Int), .slice av D1 cv] := by
      have h6 := HF6.out.blk HQ15.out (fun e => row_blk HO15.out HQ15.out (by decide) (mem_obl.1 e))
      exact HF7.out.blk (h6.alloc _) (fun e => row_blk HO6.out h6 (by decide) (mem_obl.1 e))
    have hq27 : Blk w7 q2 36 #[.bool y, .int .u64 (wd2 : Int), .slice bv D2 dv] := by
      have h6 := HF6.out.blk HQ25.out (fun e => row_blk HO15.out HQ25.out (by decide) (mem_obl.1 e))
      exact HF7.out.blk (h6.alloc _) (fun e => row_blk HO6.out h6 (by decide) (mem_obl.1 e))
    have hu17 : Us w7 (.slice av D1 cv) S1 := by
      have h6 := HF6.out.own HU15.out (row_row HU15.out HO15.out (by decide))
      exact HF7.out.own (own_below h6 ((Below.refl _ _).alloc (Nat.le_refl _) _)) (row_row h6 HO6.out (by decide))
    have hu27 : Us w7 (.slice bv D2 dv) S2 := by
      have h6 := HF6.out.own HU25.out (row_row HU25.out HO15.out (by decide))
      exact HF7.out.own (own_below h6 ((Below.refl _ _).alloc (Nat.le_refl _) _)) (row_row h6 HO6.out (by decide))
    refine hans.mono ?_
    clear hans hrow7 hruns hN
    rintro e w8 ⟨pa8, ca8, rows, rfl, ho8, hl8, hr8, hs8, hb8⟩
    have hT : ∀ i (t : An), (tailA W S1 S2)[i]? = some t → (ts1 ++ ts2 ++ tailA W S1 S2)[n1 + n2 + i]? = some t := fun i t h => by
      rw [List.getElem?_append_right (by rw [List.length_append, ht1, ht2]; omega), List.length_append, ht1, ht2, show n1 + n2 + i - (n1 + n2) = i by omega]; exact h
    obtain ⟨g8, rfl, hcell⟩ := said_cells ho8 hl8 hr8 hs8 (by omega)
    obtain ⟨v1, m1, d1, -, -, y1, -, e1⟩ := hcell _ _ (hT 1 ⟨false, 0, W⟩ rfl)
    obtain ⟨v2, m2, d2, -, y2, -, -, -⟩ := hcell _ _ (hT 2 ⟨false, W.length, []⟩ rfl)
    obtain ⟨v3, m3, d3, y3, -, -, -, -⟩ := hcell _ _ (hT 3 ⟨decide (W.length = 0), 0, []⟩ rfl)
    obtain ⟨v4, m4, d4, -, -, y4, -, e4⟩ := hcell _ _ (hT 4 ⟨false, 0, S1⟩ rfl)
    obtain ⟨v5, m5, d5, -, -, y5, -, e5⟩ := hcell _ _ (hT 5 ⟨false, 0, S2⟩ rfl)
    have hq18 : Blk w8 q1 36 #[.bool x, .int .u64 (wd1 : Int), .slice av D1 cv] := (hb8.block q1 hq17.lt).trans hq17
    have hq28 : Blk w8 q2 36 #[.bool y, .int .u64 (wd2 : Int), .slice bv D2 dv] := (hb8.block q2 hq27.lt).trans hq27
    have hu18 : Us w8 (.slice av D1 cv) S1 := own_below hu17 hb8
    have hu28 : Us w8 (.slice bv D2 dv) S2 := own_below hu27 hb8
    have hB8 : Below w.heap.size w w8 := HB7.out.trans (hb8.mono HB7.out.size)
    have hmk8 := HMK.out trivial w8 (.slice av D1 cv) (.slice bv D2 dv) hu18 hu28
    have k12 : w8.cell? ⟨q1, 2, none⟩ = some (.slice av D1 cv) := hq18.cell 2 rfl
    have k22 : w8.cell? ⟨q2, 2, none⟩ = some (.slice bv D2 dv) := hq28.cell 2 rfl
    have hcm := HCM.out
    have HMK8 := Lib.hid hmk8
    have HE1 := Lib.hid (Us.of e1)
    have HE4 := Lib.hid (Us.of e4)
    have HE5 := Lib.hid (Us.of e5)
    have HU18 := Lib.hid hu18
    have HU28 := Lib.hid hu28
    have HB8 := Lib.hid hB8
    have HN3 := Lib.hid hN3
    have hN0 : ((N : Int) == 0) = false := by rw [beq_eq_false_iff_ne]; omega
    clear ho8 hl8 hr8 hs8 hb8 hcell e1 e4 e5 hq17 hq27 hu17 hu27 hq18 hq28 hu18 hu28 hB8 hmk8 hT ht1 ht2 hN3 HO6 HO7 HF6 HF7
    go_wp2_with fail
    refine HMK8.out.mono ?_
    rintro e w9 ⟨v9, rfl, hu9, hb9⟩
    obtain ⟨a9, c9, rfl, -⟩ := hu9.shape
    obtain ⟨L, hL⟩ : ∃ L, W.length = L := ⟨_, rfl⟩
    have hWl := HW.out
    rw [hL] at hu9 y2 y3 hWl ⊢
    have HL := Lib.hid hL
    obtain ⟨E, hE⟩ : ∃ E, decide (L = 0) = E := ⟨_, rfl⟩
    rw [hE] at y3
    have hE2 : ((L : Int) == 0) = E := by rw [← hE]; rw [Bool.eq_iff_iff, beq_iff_eq, decide_eq_true_iff]; omega
    have hEE : (E == E) = true := beq_self_eq_true E
    have hLL : ((L : Int) == (L : Int)) = true := beq_self_eq_true _
    have hwL : IntKind.u64.wrap (L : Int) = (L : Int) := u64wd L (by omega)
    replace k12 := cell_below hb9 (Nat.le_refl _) k12
    replace k22 := cell_below hb9 (Nat.le_refl _) k22
    replace y1 := cell_below hb9 (Nat.le_refl _) y1
    replace y2 := cell_below hb9 (Nat.le_refl _) y2
    replace y3 := cell_below hb9 (Nat.le_refl _) y3
    replace y4 := cell_below hb9 (Nat.le_refl _) y4
    replace y5 := cell_below hb9 (Nat.le_refl _) y5
    have hu18 : Us w9 (.slice av D1 cv) S1 := own_below HU18.out hb9
    have hu28 : Us w9 (.slice bv D2 dv) S2 := own_below HU28.out hb9
    have he1 : Us w9 (.slice v1 m1 d1) W := own_below HE1.out hb9
    have he4 : Us w9 (.slice v4 m4 d4) S1 := own_below HE4.out hb9
    have he5 : Us w9 (.slice v5 m5 d5) S2 := own_below HE5.out hb9
    have hs1 : ∀ n, Calls Tryz.prog 20 #[.slice v1 m1 d1, .slice a9 L c9] (w9.drewN n) fun e w'' => e = .returned (.bool true) ∧ ∃ m, w'' = w9.drewN m := fun n =>
      (same_any _ _ W W (w9.drewN n) he1 hu9 HW.out HW.out).mono fun e w'' ⟨h1, nq, h2⟩ => ⟨by rw [h1, decide_eq_true rfl], n + nq, by rw [h2, World.drewN_drewN]⟩
    have hs4 : ∀ n, Calls Tryz.prog 20 #[.slice v4 m4 d4, .slice av D1 cv] (w9.drewN n) fun e w'' => e = .returned (.bool true) ∧ ∃ m, w'' = w9.drewN m := fun n =>
      (same_any _ _ S1 S1 (w9.drewN n) he4 hu18 HS1.out HS1.out).mono fun e w'' ⟨h1, nq, h2⟩ => ⟨by rw [h1, decide_eq_true rfl], n + nq, by rw [h2, World.drewN_drewN]⟩
    have hs5 : ∀ n, Calls Tryz.prog 20 #[.slice v5 m5 d5, .slice bv D2 dv] (w9.drewN n) fun e w'' => e = .returned (.bool true) ∧ ∃ m, w'' = w9.drewN m := fun n =>
      (same_any _ _ S2 S2 (w9.drewN n) he5 hu28 HS2.out HS2.out).mono fun e w'' ⟨h1, nq, h2⟩ => ⟨by rw [h1, decide_eq_true rfl], n + nq, by rw [h2, World.drewN_drewN]⟩
    have HS1c := Lib.hid hs1
    have HS4c := Lib.hid hs4
    have HS5c := Lib.hid hs5
    have HB9 := Lib.hid hb9
    clear hu9 hu18 hu28 he1 he4 he5 hs1 hs4 hs5 hb9 hL hE
    obtain ⟨J1, hJ1⟩ : ∃ J, n1 + n2 + 1 = J := ⟨_, rfl⟩
    rw [hJ1] at y1
    have ja1 : IntKind.i64.wrap ((N : Int) - 5) = (J1 : Int) := by have := HN3.out; rw [IntWalk.i64_in _ (by omega)]; omega
    have jb1 : J1 < N := by have := HN3.out; omega
    have jc1 : (J1 : Int) < (N : Int) := by omega
    have jd1 : (0 : Int) ≤ (J1 : Int) := by omega
    obtain ⟨J2, hJ2⟩ : ∃ J, n1 + n2 + 2 = J := ⟨_, rfl⟩
    rw [hJ2] at y2
    have ja2 : IntKind.i64.wrap ((N : Int) - 4) = (J2 : Int) := by have := HN3.out; rw [IntWalk.i64_in _ (by omega)]; omega
    have jb2 : J2 < N := by have := HN3.out; omega
    have jc2 : (J2 : Int) < (N : Int) := by omega
    have jd2 : (0 : Int) ≤ (J2 : Int) := by omega
    obtain ⟨J3, hJ3⟩ : ∃ J, n1 + n2 + 3 = J := ⟨_, rfl⟩
    rw [hJ3] at y3
    have ja3 : IntKind.i64.wrap ((N : Int) - 3) = (J3 : Int) := by have := HN3.out; rw [IntWalk.i64_in _ (by omega)]; omega
    have jb3 : J3 < N := by have := HN3.out; omega
    have jc3 : (J3 : Int) < (N : Int) := by omega
    have jd3 : (0 : Int) ≤ (J3 : Int) := by omega
    obtain ⟨J4, hJ4⟩ : ∃ J, n1 + n2 + 4 = J := ⟨_, rfl⟩
    rw [hJ4] at y4
    have ja4 : IntKind.i64.wrap ((N : Int) - 2) = (J4 : Int) := by have := HN3.out; rw [IntWalk.i64_in _ (by omega)]; omega
    have jb4 : J4 < N := by have := HN3.out; omega
    have jc4 : (J4 : Int) < (N : Int) := by omega
    have jd4 : (0 : Int) ≤ (J4 : Int) := by omega
    obtain ⟨J5, hJ5⟩ : ∃ J, n1 + n2 + 5 = J := ⟨_, rfl⟩
    rw [hJ5] at y5
    have ja5 : IntKind.i64.wrap ((N : Int) - 1) = (J5 : Int) := by have := HN3.out; rw [IntWalk.i64_in _ (by omega)]; omega
    have jb5 : J5 < N := by have := HN3.out; omega
    have jc5 : (J5 : Int) < (N : Int) := by omega
    have jd5 : (0 : Int) ≤ (J5 : Int) := by omega
    have HJ1 := Lib.hid hJ1
    clear hJ1
    have HJ2 := Lib.hid hJ2
    clear hJ2
    have HJ3 := Lib.hid hJ3
    clear hJ3
    have HJ4 := Lib.hid hJ4
    clear hJ4
    have HJ5 := Lib.hid hJ5
    clear hJ5
    go_wp2_with fail
    go_quiet ((go_at_call 20; first | with_reducible exact HS1c.out _ | with_reducible exact HS4c.out _ | with_reducible exact HS5c.out _))
    go_wp2_with fail
    go_ret
    exact ⟨rfl, below_drewN (HB8.out.trans (HB9.out.mono HB8.out.size)) _⟩

theorem made_c (sz : Int) (v : Value) (xs : List Nat) (on : Nat) (w : World) (hv : Sl w v (u64s xs)) (hb : ∀ x ∈ xs, x < 18446744073709551616) (hon : on ≤ 1000) : MadeC false sz v on (madeL on (xs.take 40)) 0 (nums (madeP (xs.take 40) (xs.take 40).length)) w := by
  unfold MadeC
  rw [madeL_len]
  exact made_sp sz v xs on w hv hb hon

set_option maxRecDepth 100000 in
theorem baany_c (x y : Bool) (wd1 wd2 : Nat) (S1 S2 : List Nat) : FitsC 10 x y wd1 wd2 S1 S2 true := by
  intro w s1 s2 h1 h2
  obtain ⟨a, c, rfl, -⟩ := h1.shape
  obtain ⟨b, d, rfl, -⟩ := h2.shape
  obtain ⟨n, hn⟩ : ∃ n, S1.length = n := ⟨_, rfl⟩
  obtain ⟨m, hm⟩ : ∃ m, S2.length = m := ⟨_, rfl⟩
  rw [hn, hm]
  clear h1 h2 hn hm
  go_enter Tryz.func10, Tryz.ntmps10
  go_wp2_with fail
  go_ret
  exact ⟨rfl, ((Below.refl _ _).alloc (Nat.le_refl _) _).alloc (by simp) _⟩

def AndLoop (A B : List Nat) (n : Nat) (w : World) (k : Nat) (so idx : Value) (wr : World) : Prop :=
  ∃ (i : Nat) (p : Option Addr) (m cc : Nat), so = .slice p m cc ∧ idx = .int .i64 (i : Int) ∧ i + k = n ∧ wr.ownsRow w.heap.size 34 1 (.slice p m cc) m (u64s (sAnd (A.take i) B)) ∧ Below w.heap.size w wr
theorem sAnd_succ (A B : List Nat) (i : Nat) (h : i < A.length) : sAnd (A.take (i + 1)) B = if sHas B (A.getD i 0) then sAnd (A.take i) B ++ [A.getD i 0] else sAnd (A.take i) B := by
  unfold sAnd
  rw [List.take_succ_eq_append_getElem h, List.filter_append, show A.getD i 0 = A[i] by rw [List.getD_eq_getElem?_getD, List.getElem?_eq_getElem h]; rfl]
  by_cases hb : sHas B A[i] <;> simp [hb]
theorem sAnd_le (A B : List Nat) (i : Nat) : (sAnd (A.take i) B).length ≤ i := by
  unfold sAnd
  exact Nat.le_trans (List.length_filter_le _ _) (by rw [List.length_take]; omega)
end Go.Proofs.YtjnefgmoobbniaaGreat
