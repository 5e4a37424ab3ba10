/- Walk of impl.GRAdj. -/
import Derived.Test.YtdmkijdokmnicaaDoorGrImpl
namespace Go.Proofs.YtdmkijdokmnicaaDoor
set_option linter.unusedVariables false
open Go.RowKit

set_option maxRecDepth 100000 in
set_option maxHeartbeats 2000000 in
theorem gradj_yes (v : Value) (l : List Gr.Ed) (x : Int) (w : World) (a0 a1 a2 : Addr) (hv : Rw 2 w v (l.map edRow)) (h9 : l.length ≤ 100) (hSn : Sn w a0 a1 a2) (hx : x ∈ (Gr.run l).1) :
    Calls Tryd.prog 6 #[v, .int .i64 x] w (GAdjPost l x w) := by
  have HC := Lib.hid (grof_any v l w a0 a1 a2 hv h9 hSn)
  have HSN := Lib.hid (fun w' (hb : Below w.heap.size w w') => hSn.below (Nat.le_refl _) hb)
  have hE9 := (Gr.run_len l).2
  have hx0 := hx
  have hta := assert_int
  obtain ⟨V, hV⟩ : ∃ V, (Gr.run l).1 = V := ⟨_, rfl⟩
  obtain ⟨E, hE⟩ : ∃ V, (Gr.run l).2 = V := ⟨_, rfl⟩
  have hE1 : E.length ≤ 1000 := by rw [← hE]; omega
  clear hv hSn hE9 h9
  unfold OfPost at HC
  unfold GAdjPost
  rw [hV, hE] at HC ⊢
  rw [hV] at hx0
  rw [if_pos hx0]
  have HX := Lib.hid hx0
  clear hV hE hx hx0
  go_enter Tryd.func6, Tryd.ntmps6
  go_wp2_with fail
  refine HC.out.mono ?_
  rintro e w1 ⟨s, b, f, u, rfl, hg, hb⟩
  have HG := Lib.hid hg
  have HB := Lib.hid hb
  have hsz1 := hb.size
  clear hg hb HC
  go_wp2_with fail
  refine (gadj_yes w1 w.heap.size s b f V E x HG.out hsz1 HX.out hE1).mono ?_
  rintro e w2 ⟨ks, v2, rfl, hown, hss, hlen, hb2⟩
  obtain ⟨a, n, cap, rfl, hla, hc, hm, hr⟩ := Sl.of_owns hown
  rw [ifs_len] at hla
  have hn9 : n ≤ 1000 := by
    have := Gr.adj_len E x
    omega
  have HL := Lib.hid hla
  have HSS := Lib.hid hss
  have HB2 := Lib.hid (HB.out.trans hb2)
  have HR := Lib.hid hr
  have hm2 : n ≤ maxLen := by unfold maxLen; omega
  have HE := Lib.hid (grerr0 a0 a1 a2)
  clear hown hss hlen hb2 hla hc hm hr hE1
  go_wp2_with fail
  go_loopg [4, 26] n (fun k out idx wr => AdjIn ks n w2 k out idx wr)
  case atStart => exact ⟨0, none, 0, rfl, rfl, by omega, World.ownsRow_nil _ _ _ _, Below.refl _ _⟩
  case round =>
    obtain ⟨i, p, cap0, rfl, rfl, hik, hown, hbel⟩ := hrel
    have HO := Lib.hid hown
    have HBL := Lib.hid hbel
    have hsz := hbel.size
    clear hown
    by_cases hi : i < n
    · cases gk with
      | zero => omega
      | succ k =>
        obtain ⟨b1, o1, rfl, hcell⟩ := HR.out (by omega)
        have h1 := hcell i _ (ifs_at ks i (by rw [HL.out]; exact hi))
        rw [← hbel.cell (World.block_lt_of_cell? w2 _ h1)] at h1
        have hs := take_getD ks i (by rw [HL.out]; exact hi)
        obtain ⟨X, hX⟩ : ∃ X, ks.getD i 0 = X := ⟨_, rfl⟩
        rw [hX] at hs h1
        have HS := Lib.hid hs
        have hm1 : i + 1 ≤ maxLen := by unfold maxLen; omega
        clear hcell hX hs hbel
        go_wp2_with (at_builtin; refine wpList_append1 rfl _ _ 23 rfl w2.heap.size 3 (.int .i64 0) 8 Tryd.underlying23 info_int rfl _ i (i64s (ks.take i)) rfl HO.out _ rfl rfl hm1 (by omega) hsz ?_; intro g cap1 w3 hown3 hg3 hb3)
        go_roundg k
        case measure => omega
        case rel =>
          refine ⟨i + 1, some ⟨g, 0, none⟩, cap1, rfl, by go_num, by omega, ?_, HBL.out.trans hb3⟩
          rw [HS.out, i64s_app]
          exact hown3
    · obtain rfl : i = n := by omega
      have hd : decide ((i : Int) < (i : Int)) = false := by simp
      have hfin : ks.take i = ks := List.take_of_length_le (by rw [HL.out]; exact Nat.le_refl _)
      have HF := Lib.hid hfin
      have hbt := HB2.out.trans (HBL.out.mono HB2.out.size)
      have hn := HE.out wr (HSN.out wr hbt)
      rw [show errv a0 a1 a2 0 = Value.nilIface from rfl] at hn
      have HN := Lib.hid hn
      have HBT := Lib.hid hbt
      clear hfin hbel hbt hn
      go_wp2_with fail
      refine HN.out.mono ?_
      rintro e w1 ⟨rfl, rfl⟩
      go_wp2_with fail
      go_ret2
      have ho := HO.out
      rw [HF.out] at ho
      exact ⟨ks, _, rfl, Sl.of_owns ho, HSS.out, fun hn => absurd HX.out hn, HBT.out⟩

set_option maxRecDepth 100000 in
set_option maxHeartbeats 2000000 in
theorem gradj_no (v : Value) (l : List Gr.Ed) (x : Int) (w : World) (a0 a1 a2 : Addr) (hv : Rw 2 w v (l.map edRow)) (h9 : l.length ≤ 100) (hSn : Sn w a0 a1 a2) (hx : x ∉ (Gr.run l).1) :
    Calls Tryd.prog 6 #[v, .int .i64 x] w (GAdjPost l x w) := by
  have HC := Lib.hid (grof_any v l w a0 a1 a2 hv h9 hSn)
  have HSN := Lib.hid (fun w' (hb : Below w.heap.size w w') => hSn.below (Nat.le_refl _) hb)
  have hadj := Gr.not_adj (Gr.ok_run l) hx
  have hx0 := hx
  obtain ⟨V, hV⟩ : ∃ V, (Gr.run l).1 = V := ⟨_, rfl⟩
  obtain ⟨E, hE⟩ : ∃ V, (Gr.run l).2 = V := ⟨_, rfl⟩
  clear hv hSn h9
  unfold OfPost at HC
  unfold GAdjPost
  rw [hV, hE] at HC ⊢
  rw [hV] at hx0
  rw [hE] at hadj
  rw [if_neg hx0]
  have HX := Lib.hid hx0
  have HA := Lib.hid hadj
  have HE := Lib.hid (grerr1 a0 a1 a2)
  clear hV hE hx hx0 hadj
  go_enter Tryd.func6, Tryd.ntmps6
  go_wp2_with fail
  refine HC.out.mono ?_
  rintro e w1 ⟨s, b, f, u, rfl, hg, hb⟩
  have HG := Lib.hid hg
  have HB := Lib.hid hb
  have hsz1 := hb.size
  clear hg hb HC
  go_wp2_with fail
  refine (gadj_no w1 w.heap.size s b f V E x a0 HG.out (HSN.out w1 HB.out).c0 HX.out).mono ?_
  rintro e w2 ⟨rfl, hb2⟩
  have HB2 := Lib.hid (HB.out.trans hb2)
  clear hb2
  go_wp2_with fail
  go_loopg [4, 26] 0 (fun k out idx wr => out = .slice none 0 0 ∧ idx = .int .i64 0 ∧ wr = w2)
  case atStart => exact ⟨rfl, rfl, rfl⟩
  case round =>
    obtain ⟨rfl, rfl, rfl⟩ := hrel
    have hn := HE.out wr (HSN.out wr HB2.out)
    rw [show errv a0 a1 a2 1 = Value.iface 67 (.pointer (some a0)) from rfl] at hn
    have HN := Lib.hid hn
    clear hn
    go_wp2_with fail
    refine HN.out.mono ?_
    rintro e w1 ⟨rfl, rfl⟩
    go_wp2_with fail
    go_ret2
    refine ⟨[], _, rfl, Sl.nil _, ?_, fun _ => rfl, HB2.out⟩
    rw [HA.out]
    exact ⟨by simp, by simp⟩
theorem gradj_any (v : Value) (l : List Gr.Ed) (x : Int) (w : World) (a0 a1 a2 : Addr) (hv : Rw 2 w v (l.map edRow)) (h9 : l.length ≤ 100) (hSn : Sn w a0 a1 a2) :
    Calls Tryd.prog 6 #[v, .int .i64 x] w (GAdjPost l x w) := by
  by_cases hx : x ∈ (Gr.run l).1
  · exact gradj_yes v l x w a0 a1 a2 hv h9 hSn hx
  · exact gradj_no v l x w a0 a1 a2 hv h9 hSn hx
end Go.Proofs.YtdmkijdokmnicaaDoor
