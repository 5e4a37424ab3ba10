/- FnGRAny. -/
import Derived.Test.YtdmkijdokmnicaaDoorGrLaw
import Derived.Deep.CutBlock
namespace Go.Proofs.YtdmkijdokmnicaaDoor
set_option linter.unusedVariables false
open Go.RowKit

def IdxLoop (x : Int) (l : List Int) (n : Nat) (w : World) (k : Nat) (idx : Value) (wr : World) : Prop :=
  ∃ i : Nat, idx = .int .i64 (i : Int) ∧ i + k = n ∧ x ∉ l.take i ∧ wr = w
set_option maxRecDepth 100000 in
set_option maxHeartbeats 1000000 in
/-- slices.Index of what is there -/
theorem index_yes (v : Value) (l : List Int) (x : Int) (w : World) (hv : Sl w v (i64s l)) (h9 : l.length ≤ 1000000) (hx : x ∈ l) :
    Calls Tryd.prog 20 #[v, .int .i64 x] w fun e w' => (∃ i : Nat, e = .returned (.int .i64 (i : Int))) ∧ w = w' := by
  obtain ⟨a, n, cap, rfl, hla, hc, hm, hr⟩ := hv
  rw [i64s_len] at hla
  have hn1 : n ≤ 1000000 := by omega
  have HL := Lib.hid hla
  have HX := Lib.hid hx
  clear hla h9 hm hx
  go_enter Tryd.func20, Tryd.ntmps20
  go_wp2_with fail
  go_loopg [8] n (fun k idx wr => IdxLoop x l n w k idx wr)
  case atStart => exact ⟨0, rfl, by omega, by simp, rfl⟩
  case round =>
    obtain ⟨i, rfl, hik, hno, rfl⟩ := hrel
    have HNO := Lib.hid hno
    clear hno
    by_cases hi : i < n
    · cases gk with
      | zero => omega
      | succ k =>
        obtain ⟨b1, o1, rfl, hcell⟩ := hr (by omega)
        have hil : i < l.length := by rw [HL.out]; exact hi
        have h1 := hcell i _ (i64s_at l i hil)
        have htk := take_getD l i hil
        obtain ⟨X, hX⟩ : ∃ X, l.getD i 0 = X := ⟨_, rfl⟩
        rw [hX] at h1 htk
        have HTK := Lib.hid htk
        clear hr hcell hX htk hil
        by_cases hxx : x = X
        · subst hxx
          have hb : (x == x) = true := by simp
          go_wp2_with fail
          go_ret
          exact ⟨⟨i, rfl⟩, rfl⟩
        · have hb : (x == X) = false := by simpa using hxx
          have HXX := Lib.hid hxx
          clear hxx
          go_wp2_with fail
          go_roundg k
          case measure => omega
          case rel =>
            refine ⟨i + 1, by go_num, by omega, ?_, rfl⟩
            rw [HTK.out]
            intro h
            rcases List.mem_append.1 h with h | h
            · exact HNO.out h
            · exact HXX.out (by simpa using h)
    · obtain rfl : i = n := by omega
      exfalso
      have := HNO.out
      rw [List.take_of_length_le (by rw [HL.out]; exact Nat.le_refl _)] at this
      exact this HX.out
theorem contains_yes (v : Value) (l : List Int) (x : Int) (w : World) (hv : Sl w v (i64s l)) (h9 : l.length ≤ 1000000) (hx : x ∈ l) :
    Calls Tryd.prog 11 #[v, .int .i64 x] w fun e w' => e = .returned (.bool true) ∧ w = w' := by
  have HC := Lib.hid (index_yes v l x w hv h9 hx)
  clear hv h9 hx
  go_enter Tryd.func11, Tryd.ntmps11
  go_wp2_with fail
  refine HC.out.mono ?_
  rintro e w' ⟨⟨i, rfl⟩, rfl⟩
  have hi : (0 : Int) ≤ (i : Int) := by omega
  go_wp2_with fail
  go_ret
  exact ⟨rfl, rfl⟩

/-- the edges in the other order, in both directions -/
def both (l : List Gr.Ed) : List Gr.Ed := l.flatMap fun e => [(e.2, e.1), e]
theorem both_len (l : List Gr.Ed) : (both l).length = 2 * l.length := by
  induction l with
  | nil => rfl
  | cons a r ih =>
    unfold both at ih ⊢
    rw [List.flatMap_cons, List.length_append, ih]
    simp; omega
theorem both_snoc (l : List Gr.Ed) (e : Gr.Ed) : both (l ++ [e]) = both l ++ [(e.2, e.1), e] := by simp [both]
theorem both_alike (l : List Gr.Ed) : Gr.Alike l (both l.reverse) := by
  intro x y
  unfold Gr.joined both
  simp only [List.mem_flatMap, List.mem_reverse, List.mem_cons, Prod.mk.injEq, List.not_mem_nil, or_false]
  constructor
  · rintro (h | h)
    · exact .inl ⟨_, h, .inr rfl⟩
    · exact .inr ⟨_, h, .inr rfl⟩
  · rintro (⟨e, he, h | h⟩ | ⟨e, he, h | h⟩)
    · obtain ⟨h1, h2⟩ := h
      subst h1; subst h2
      exact .inr he
    · subst h; exact .inl he
    · obtain ⟨h1, h2⟩ := h
      subst h1; subst h2
      exact .inl he
    · subst h; exact .inr he
theorem rev_take_ed (l : List Gr.Ed) (i j : Nat) (h : i + 1 + j = l.length) : l.reverse.take (j + 1) = l.reverse.take j ++ [l.getD i (0, 0)] := by
  rw [List.take_succ_eq_append_getElem (by simp; omega)]
  congr 2
  have hi : i < l.length := by omega
  simp [List.getElem_reverse, hi]
  congr 1
  omega

theorem app_cont {Goal : Prop} {w0 W w4 : World} {B z n : Nat} {e : TypeId} {v : Value} {xs : List Value} (hO : W.ownsRow B e z v n xs) (hB : Below B w0 W) (hBW : B ≤ W.heap.size) (hgr : W.grownBy w4 v.ownBlock) (hk : Below B w0 w4 → Goal) : Goal :=
  hk (hB.grown hgr hBW fun k hk => (hO.lt k hk).1)
theorem rw_edFlat {w : World} {B : Nat} {v : Value} {n : Nat} {E : List Gr.Ed} (h : w.ownsRow B 37 2 v n (edFlat E)) : Rw 2 w v (E.map edRow) := by
  refine Rw.of_owns (rows := E.map edRow) (fun r hr => ?_) (by decide) (B := B) (e := 37) (n := n) ?_
  · obtain ⟨e, _, rfl⟩ := List.mem_map.1 hr
    rfl
  · rw [← List.flatMap_def]
    exact h
def FstLoop (n : Nat) (w : World) (k : Nat) (idx : Value) (wr : World) : Prop := ∃ i : Nat, idx = .int .i64 (i : Int) ∧ i + k = n ∧ Below w.heap.size w wr
def OthLoop (l : List Gr.Ed) (n : Nat) (w : World) (k : Nat) (out idx : Value) (wr : World) : Prop :=
  ∃ (j : Nat) (p : Option Addr) (m cap : Nat), out = .slice p m cap ∧ idx = .int .i64 ((k : Int) - 1) ∧ k + j = n ∧ m = 2 * j ∧ wr.ownsRow w.heap.size 37 2 (.slice p m cap) m (edFlat (both (l.reverse.take j))) ∧ Below w.heap.size w wr

set_option maxRecDepth 100000 in
set_option maxHeartbeats 4000000 in
theorem law_grany (v : Value) (x : Int) (w : World) (a0 a1 a2 : Addr) (hv : AnyEds w v) (hSn : Sn w a0 a1 a2) :
    Calls Tryd.prog 4 #[v, .int .i64 x] w fun e w' => e = .returned (.bool true) ∧ Below w.heap.size w w' := by
  obtain ⟨l, hv⟩ := hv
  have HV := Lib.hid hv
  obtain ⟨a, n, cap, rfl, hla, hc, hm, hr⟩ := hv
  rw [List.length_map] at hla
  have HL := Lib.hid hla
  have HR := Lib.hid hr
  have HSN := Lib.hid hSn
  clear hla hc hm hr hSn
  by_cases h1 : (2147483647 : Int) < (n : Int)
  · clear HV HL HR HSN
    go_enter Tryd.func4, Tryd.ntmps4
    go_wp2_with fail
    go_ret
    exact ⟨rfl, Below.refl _ _⟩
  by_cases h2 : (20 : Int) < (n : Int)
  · clear HV HL HR HSN
    go_enter Tryd.func4, Tryd.ntmps4
    go_wp2_with fail
    go_ret
    exact ⟨rfl, Below.refl _ _⟩
  have hn20 : n ≤ 20 := by omega
  go_enter Tryd.func4, Tryd.ntmps4
  go_wp2_with fail
  clear h1 h2
  go_loopg [5, 6] n (fun k out idx wr => OthLoop l n w k out idx wr)
  case atStart => exact ⟨0, none, 0, 0, rfl, rfl, by omega, rfl, by simpa [both, edFlat] using World.ownsRow_nil _ _ _ _, Below.refl _ _⟩
  case round =>
    obtain ⟨j, p, m, cap0, rfl, rfl, hik, rfl, hown, hbel⟩ := hrel
    have HO := Lib.hid hown
    have HB := Lib.hid hbel
    have hsz := hbel.size
    clear hown
    cases gk with
    | succ i =>
      obtain ⟨b1, o1, rfl, hcell⟩ := HR.out (by omega)
      have hil : i < l.length := by rw [HL.out]; omega
      have q0 := hcell i _ (ed_at l i hil) 0 _ rfl
      have q1 := hcell i _ (ed_at l i hil) 1 _ rfl
      have qlt : b1 < w.heap.size := World.block_lt_of_cell? w _ q0
      rw [← hbel.cell (World.block_lt_of_cell? w _ q0)] at q0
      rw [← hbel.cell (World.block_lt_of_cell? w _ q1)] at q1
      have htk := rev_take_ed l i j (by rw [HL.out]; omega)
      obtain ⟨X, Y, hxy⟩ : ∃ x y, l.getD i (0, 0) = (x, y) := ⟨_, _, rfl⟩
      rw [hxy] at q0 q1 htk
      simp only at q0 q1
      rw [Nat.add_zero] at q0
      rw [← Nat.add_assoc] at q1
      have HTK := Lib.hid htk
      have QW : Hid (w.cell? ⟨b1, o1 + i * 2, none⟩ = some (.int .i64 X) ∧ w.cell? ⟨b1, o1 + i * 2 + 1, none⟩ = some (.int .i64 Y)) := Lib.hid ⟨(hbel.cell (p := ⟨b1, o1 + i * 2, none⟩) qlt).symm.trans q0, (hbel.cell (p := ⟨b1, o1 + i * 2 + 1, none⟩) qlt).symm.trans q1⟩
      have QLT := Lib.hid qlt
      clear qlt
      rw [show ((i + 1 : Nat) : Int) - 1 = (i : Int) by omega]
      have hi0 : (0 : Int) ≤ (i : Int) := by omega
      have hin : (i : Int) < (n : Int) := by omega
      have hinn : i < n := by omega
      clear hcell hil htk hxy hbel
      have h01 : 0 < 2 := by omega
      have hmx : 2 * j + 2 ≤ maxLen := by unfold maxLen; omega
      have hmy : (2 * j + 2) * 16 ≤ 140737488355328 := by omega
      have HOC : Hid (∀ u ∈ ([.int .i64 Y, .int .i64 X, .int .i64 X, .int .i64 Y] : List Value), u.oneCell' = true) := Lib.hid (by simp [Value.oneCell'])
      obtain ⟨i0, hi0, hz0, hz1, hz2⟩ := info_parts info_edge
      have HI0 := Lib.hid hi0
      have HI1 := Lib.hid hz0
      have HI2 := Lib.hid hz1
      have HI3 := Lib.hid hz2
      clear hi0 hz0 hz1 hz2
      go_wp2_with fail
      go_region_held3 (fun w' => w'.cell? ⟨b1, o1 + i * 2, none⟩ = some (.int .i64 X) ∧ w'.cell? ⟨b1, o1 + i * 2 + 1, none⟩ = some (.int .i64 Y))
        ((first | exact ⟨by assumption, by assumption⟩ | (refine ⟨?_, ?_⟩ <;> (repeat (first | with_reducible assumption | with_reducible refine drew_keep ?_ | with_reducible refine alloc_keep ?_ _)))))
        (first
          | (refine step_append_lies _ (by rfl) (.tmp 34) (.tmp 50) 22 (by rfl) w.heap.size 37 i0 (.agg #[.int .i64 0, .int .i64 0]) 2 16 Tryd.underlying22 HI0.out HI1.out HI2.out HI3.out rfl h01 (.slice p (2 * j) cap0) (2 * j) (edFlat (both (l.reverse.take j))) (by rfl) ?_ _ 2 2 [.int .i64 Y, .int .i64 X, .int .i64 X, .int .i64 Y] (by rfl) rfl ?_ HOC.out h01 hmx hmy ?_ _ rfl ?_
             focus ((repeat (first | with_reducible exact HO.out | with_reducible refine World.ownsRow.alloc ?_ _ | with_reducible refine row_drew ?_)); done)
             focus (refine Cs.add ?_; (repeat (first | with_reducible exact Cs.new _ _ _ | (with_reducible refine Cs.new' ?_; (first | rfl | (simp; done))) | with_reducible refine Cs.allocd ?_ _ | with_reducible refine Cs.drewd ?_)); done)
             focus (first | omega | (simp; omega))
             intro gA capA w4 hown4 hgrow4 hat4 hlt4
             refine app_cont (w0 := w) (B := w.heap.size) (xs := edFlat (both (l.reverse.take j))) (n := 2 * j) (z := 2) (e := 37) ?_ ?_ ?_ hgrow4 ?_
             focus ((repeat (first | with_reducible exact HO.out | with_reducible refine World.ownsRow.alloc ?_ _ | with_reducible refine row_drew ?_)); done)
             focus ((repeat (first | with_reducible exact HB.out | with_reducible refine Below.drew ?_ | with_reducible refine Below.alloc ?_ ?_ _ | omega | (simp; omega))); done)
             focus (first | omega | (simp; omega))
             intro hbl4
             have q0 : w4.cell? ⟨b1, o1 + i * 2, none⟩ = some (.int .i64 X) := (hbl4.cell QLT.out).trans QW.out.1
             have q1 : w4.cell? ⟨b1, o1 + i * 2 + 1, none⟩ = some (.int .i64 Y) := (hbl4.cell QLT.out).trans QW.out.2
             have HO4 := Lib.hid hown4
             have HB4 := Lib.hid hbl4
             clear hown4 hgrow4 hat4 hlt4 hbl4)
          | fail)
      go_wp2_with fail
      go_roundg i
      case measure => omega
      case rel =>
        refine ⟨j + 1, _, _, _, rfl, by first | rfl | go_num, by omega, by omega, ?_, ?_⟩
        · have h : both (l.reverse.take (j + 1)) = both (l.reverse.take j) ++ [(Y, X), (X, Y)] := by rw [HTK.out, both_snoc]
          rw [h]
          have h2 : edFlat (both (l.reverse.take j) ++ [(Y, X), (X, Y)]) = edFlat (both (l.reverse.take j)) ++ [.int .i64 Y, .int .i64 X, .int .i64 X, .int .i64 Y] := by simp [edFlat, edRow]
          rw [h2]
          exact HO4.out
        · (repeat (first | with_reducible exact HB4.out | with_reducible refine Below.drew ?_))
    | zero =>
      have hjn : j = n := by omega
      subst hjn
      have hfin : l.reverse.take j = l.reverse := List.take_of_length_le (by simp; rw [HL.out]; exact Nat.le_refl _)
      have hrw := HO.out
      rw [hfin] at hrw
      have hrw2 := rw_edFlat hrw
      obtain ⟨O, hO⟩ : ∃ O, both l.reverse = O := ⟨_, rfl⟩
      rw [hO] at hrw2
      have hal : Gr.Alike l O := by rw [← hO]; exact both_alike l
      have hl9 : l.length ≤ 100 := by rw [HL.out]; omega
      have hO9 : O.length ≤ 100 := by rw [← hO, both_len]; simp; rw [HL.out]; omega
      have HOR := Lib.hid hrw2
      have HAL := Lib.hid hal
      have HL9 := Lib.hid hl9
      have HO9 := Lib.hid hO9
      obtain ⟨w1, rfl⟩ : ∃ w1 : World, w1 = wr := ⟨_, rfl⟩
      have HADJ := Lib.hid (fun (y : Int) wx (hb : Below w1.heap.size w1 wx) => gradj_any _ O y wx a0 a1 a2 (HOR.out.below rfl hb) HO9.out (HSN.out.below (Nat.le_refl _) (HB.out.trans (hb.mono HB.out.size))))
      have hneg : ¬ ((0 : Int) ≤ ((0 : Nat) : Int) - 1) := by omega
      rw [show (((0 : Nat) : Int) - 1) = (-1 : Int) from rfl]
      clear hfin hrw hrw2 hO hal hl9 hO9 hbel hneg
      go_upto_block 2 with fail
      go_cut [] (fun wx => Below w1.heap.size w1 wx)
      case first =>
        go_wp2_with fail
        go_loopg [54] j (fun k idx wr => FstLoop j w1 k idx wr)
        case atStart => exact ⟨0, rfl, by omega, Below.refl _ _⟩
        case round =>
          obtain ⟨i, rfl, hik, hb⟩ := hrel
          have HBI := Lib.hid hb
          have hbt := HB.out.trans (hb.mono HB.out.size)
          have HBT := Lib.hid hbt
          have hszr := hb.size
          by_cases hi : i < j
          · cases gk with
            | zero => omega
            | succ k =>
              obtain ⟨b1, o1, rfl, hcell⟩ := HR.out (by omega)
              have hil : i < l.length := by rw [HL.out]; exact hi
              have q0 := hcell i _ (ed_at l i hil) 0 _ rfl
              have q1 := hcell i _ (ed_at l i hil) 1 _ rfl
              rw [← hbt.cell (World.block_lt_of_cell? w _ q0)] at q0
              rw [← hbt.cell (World.block_lt_of_cell? w _ q1)] at q1
              obtain ⟨X, Y, hxy⟩ : ∃ x y, l.getD i (0, 0) = (x, y) := ⟨_, _, rfl⟩
              rw [hxy] at q0 q1
              simp only at q0 q1
              rw [Nat.add_zero] at q0
              rw [← Nat.add_assoc] at q1
              have hmem : (X, Y) ∈ l := by
                rw [← hxy, List.getD_eq_getElem?_getD, List.getElem?_eq_getElem hil]
                exact List.getElem_mem hil
              have HMEM := Lib.hid hmem
              clear hcell hil hxy hmem hbt hb
              by_cases hXY : X = Y
              · subst hXY
                have hne : (X != X) = false := by simp
                go_wp2_with fail
                go_roundg k
                case measure => omega
                case rel => exact ⟨i + 1, by go_num, by omega, HBI.out.alloc hszr _⟩
              · have hne : (X != Y) = true := by simpa using hXY
                have hj := (HAL.out X Y).1 (.inl HMEM.out)
                have hj2 := (Gr.run_joined O X Y).2 ⟨hXY, hj⟩
                have hv2 : X ∈ (Gr.run O).1 := by
                  rcases hj2 with h | h
                  · exact ((Gr.ok_run O).2.1 _ h).2.1
                  · exact ((Gr.ok_run O).2.1 _ h).2.2
                have ha2 : Y ∈ Gr.adj (Gr.run O).2 X := (Gr.mem_adj _ _ _).2 hj2
                have HV2 := Lib.hid hv2
                have HA2 := Lib.hid ha2
                have HC := Lib.hid (HADJ.out X (wr.alloc (.cells #[.int .i64 X, .int .i64 Y] 37)) (HBI.out.alloc hszr _))
                have HBK := Lib.hid (Blk.new wr 37 #[.int .i64 X, .int .i64 Y])
                clear hj hj2 hv2 ha2 hXY
                go_wp2_with fail
                refine HC.out.mono ?_
                rintro e w3 ⟨ks, kv, rfl, hk, hss, hno, hb3⟩
                rw [if_pos HV2.out]
                have hin : Y ∈ ks := (hss.2 Y).2 HA2.out
                have hlen : ks.length ≤ 1000000 := by
                  have h1 := Zs.len_same hss.1 ((Gr.ok_run O).2.2.1 X) hss.2
                  have h2 := Gr.adj_len (Gr.run O).2 X
                  have h3 := (Gr.run_len O).2
                  have := HO9.out
                  omega
                have hk2 := HBK.out.below hb3 (by simp)
                have c1 : w3.cell? ⟨wr.heap.size, 1, none⟩ = some (.int .i64 Y) := hk2.cell 1 rfl
                have HCT := Lib.hid (contains_yes kv ks Y w3 hk hlen hin)
                have HB3 := Lib.hid ((HBI.out.alloc hszr (.cells #[.int .i64 X, .int .i64 Y] 37)).trans (hb3.mono (by simp; omega)))
                obtain ⟨ka, kn, kc, rfl⟩ := hk.slice
                clear hk hss hno hb3 hin hlen hk2 HC HBK
                go_wp2_with fail
                refine HCT.out.mono ?_
                rintro e w3 ⟨rfl, rfl⟩
                go_wp2_with fail
                go_meet
                exact HB3.out
          · obtain rfl : i = j := by omega
            have hd : decide ((i : Int) < (i : Int)) = false := by simp
            clear hbt hb
            go_wp2_with fail
            go_meet
            exact HBI.out
      case rest =>
        have HBC := Lib.hid (HB.out.trans (hcut.mono HB.out.size))
        have HRUN1 := Lib.hid (fun wx (hb : Below w.heap.size w wx) => grrun_any _ l wx a0 a1 a2 (HV.out.below rfl hb) HL9.out (HSN.out.below (Nat.le_refl _) hb))
        have HRUN2 := Lib.hid (fun wx (hb : Below w1.heap.size w1 wx) => grrun_any _ O wx a0 a1 a2 (HOR.out.below rfl hb) HO9.out (HSN.out.below (Nat.le_refl _) (HB.out.trans (hb.mono HB.out.size))))
        have HADJ1 := Lib.hid (fun wx (hb : Below w.heap.size w wx) => gradj_any _ l x wx a0 a1 a2 (HV.out.below rfl hb) HL9.out (HSN.out.below (Nat.le_refl _) hb))
        have HC0 := Lib.hid hcut
        have HN := Lib.hid (And.intro (Gr.run_same_v HAL.out) (And.intro (Gr.run_same_e HAL.out) (Gr.run_same_mem HAL.out x)))
        clear hcut
        go_wp2_with fail
        refine (HRUN1.out _ HBC.out).mono ?_
        rintro e w2 ⟨u1, rfl, hb2⟩
        have HB2 := Lib.hid (HC0.out.trans (hb2.mono HC0.out.size))
        clear hb2
        go_wp2_with fail
        refine (HRUN2.out w2 HB2.out).mono ?_
        rintro e w3 ⟨u2, rfl, hb3⟩
        have HB3 := Lib.hid (HB2.out.trans (hb3.mono HB2.out.size))
        rw [← HN.out.1, ← HN.out.2.1]
        obtain ⟨N1, hN1⟩ : ∃ N, ((Gr.run l).1.length : Int) = N := ⟨_, rfl⟩
        obtain ⟨N2, hN2⟩ : ∃ N, ((Gr.run l).2.length : Int) = N := ⟨_, rfl⟩
        rw [hN1, hN2]
        have e1 : (N1 == N1) = true := by simp
        have e2 : (N2 == N2) = true := by simp
        clear hb3 hN1 hN2
        go_wp2_with fail
        refine (HADJ1.out w3 (HB.out.trans (HB3.out.mono HB.out.size))).mono ?_
        rintro e w4 ⟨ks, kv, rfl, hk, hss, hno, hb4⟩
        have HB4 := Lib.hid (HB3.out.trans (hb4.mono HB3.out.size))
        have HK := Lib.hid hk
        have HSS := Lib.hid hss
        obtain ⟨ka, kn, kc, rfl⟩ := hk.slice
        obtain ⟨E1, hE1⟩ : ∃ E : Int, (if x ∈ (Gr.run l).1 then 0 else 1) = E := ⟨_, rfl⟩
        rw [hE1]
        have HE1 := Lib.hid hE1
        clear hk hss hno hb4 hE1
        go_wp2_with fail
        refine (HADJ.out x w4 HB4.out).mono ?_
        rintro e w5 ⟨ks2, kv2, rfl, hk2, hss2, hno2, hb5⟩
        have hE2 : (if x ∈ (Gr.run O).1 then (0 : Int) else 1) = E1 := by
          rw [← HE1.out]
          by_cases h : x ∈ (Gr.run l).1
          · rw [if_pos h, if_pos (HN.out.2.2.1 h)]
          · rw [if_neg h, if_neg (fun h2 => h (HN.out.2.2.2 h2))]
        rw [hE2]
        have e3 : (E1 == E1) = true := by simp
        have hmem : ∀ y, y ∈ ks ↔ y ∈ ks2 := fun y => by rw [HSS.out.2, hss2.2, Gr.run_same_adj HAL.out]
        have hlen : ks.length ≤ 1000000 := by
          have h1 := Zs.len_same HSS.out.1 ((Gr.ok_run l).2.2.1 x) HSS.out.2
          have h2 := Gr.adj_len (Gr.run l).2 x
          have h3 := (Gr.run_len l).2
          have := HL9.out
          omega
        have HSM := Lib.hid (stsame_yes (.slice ka kn kc) kv2 ks ks2 w5 (HK.out.next hb5) hk2 hlen HSS.out.1 hss2.1 hmem)
        have HB5 := Lib.hid (HB4.out.trans (hb5.mono HB4.out.size))
        obtain ⟨ka2, kn2, kc2, rfl⟩ := hk2.slice
        clear hE2 hmem hlen hk2 hss2 hno2 hb5
        go_wp2_with fail
        refine HSM.out.mono ?_
        rintro e w6 ⟨rfl, hb6⟩
        have HB6 := Lib.hid (HB5.out.trans (hb6.mono HB5.out.size))
        clear hb6
        go_wp2_with fail
        go_ret
        exact ⟨rfl, HB.out.trans (HB6.out.mono HB.out.size)⟩
end Go.Proofs.YtdmkijdokmnicaaDoor
