/- Walk of (spec.GRGraph).Adj. -/
import Derived.Test.YtdmkijdokmnicaaDoorGrOf
namespace Go.Proofs.YtdmkijdokmnicaaDoor
set_option linter.unusedVariables false
open Go.RowKit

/-- the vertices that are joined to one -/
def joinedTo (V : List Int) (E : List Gr.Ed) (x : Int) : List Int := V.filter fun y => !decide (y = x) && decide (Gr.joined E x y)
theorem joinedTo_snoc (V : List Int) (E : List Gr.Ed) (x y : Int) : joinedTo (V ++ [y]) E x = joinedTo V E x ++ (if ¬ y = x ∧ Gr.joined E x y then [y] else []) := by
  unfold joinedTo
  rw [List.filter_append]
  by_cases h : y = x <;> by_cases h2 : Gr.joined E x y <;> simp [h, h2]

def SAdjLoop (V : List Int) (E : List Gr.Ed) (x : Int) (n : Nat) (w : World) (k : Nat) (out idx : Value) (wr : World) : Prop :=
  ∃ (i m : Nat) (p : Option Addr) (cap : Nat), out = .slice p m cap ∧ idx = .int .i64 (i : Int) ∧ i + k = n ∧ m = (joinedTo (V.take i) E x).length ∧ m ≤ i ∧ wr.ownsRow w.heap.size 3 1 (.slice p m cap) m (i64s (joinedTo (V.take i) E x)) ∧ Below w.heap.size w wr

set_option maxRecDepth 100000 in
set_option maxHeartbeats 2000000 in
theorem sadj_any (vv ev : Value) (V : List Int) (E : List Gr.Ed) (x : Int) (w : World) (hv : Sl w vv (i64s V)) (he : EsAt w ev E) (h9 : V.length ≤ 1000) (h8 : E.length ≤ 1000) :
    Calls Tryd.prog 9 #[.agg #[vv, ev], .int .i64 x] w fun e w' => ∃ v', e = .returned v' ∧ Sl w' v' (i64s (joinedTo V E x)) ∧ Below w.heap.size w w' := by
  obtain ⟨a, n, cap, rfl, hla, hc, hm, hr⟩ := hv
  rw [i64s_len] at hla
  have hn1 : n ≤ 1000 := by omega
  have HL := Lib.hid hla
  have HR := Lib.hid hr
  have HE := Lib.hid he
  have HJ := Lib.hid (fun y w2 (hb : Below w.heap.size w w2) => joined_any (.slice a n cap) ev E x y w2 (he.below hb) h8)
  clear hla hr hc hm h9 he h8
  go_enter Tryd.func9, Tryd.ntmps9
  go_wp2_with fail
  go_loopg [5, 11] n (fun k out idx wr => Blk wr w.heap.size 25 #[.slice a n cap, ev] ∧ SAdjLoop V E x n (w.alloc (.cells #[.slice a n cap, ev] 25)) k out idx wr)
  case atStart => exact ⟨Blk.new w _ _, 0, 0, none, 0, rfl, rfl, by omega, by simp [joinedTo], Nat.le_refl _, by simpa [joinedTo, i64s] using World.ownsRow_nil _ _ _ _, Below.refl _ _⟩
  case round =>
    obtain ⟨hk, i, m, p, cap0, rfl, rfl, hik, hmm, hmi, hown, hbel⟩ := hrel
    have hb0 : Below w.heap.size w wr := ((Below.refl _ _).alloc (Nat.le_refl _) _).trans (hbel.mono (by simp))
    have HK := Lib.hid hk
    have HMM := Lib.hid hmm
    have HO := Lib.hid hown
    have HB := Lib.hid hbel
    have HB0 := Lib.hid hb0
    have hsz := hbel.size
    have g0 : wr.cell? ⟨w.heap.size, 0, none⟩ = some (.slice a n cap) := hk.cell 0 rfl
    have g1 : wr.cell? ⟨w.heap.size, 1, none⟩ = some ev := hk.cell 1 rfl
    clear hmm hown hk
    by_cases hi : i < n
    · cases gk with
      | zero => omega
      | succ k =>
        obtain ⟨b1, o1, rfl, hcell⟩ := HR.out (by omega)
        have hil : i < V.length := by rw [HL.out]; exact hi
        have h1 := hcell i _ (i64s_at V i hil)
        rw [← hb0.cell (World.block_lt_of_cell? w _ h1)] at h1
        have htk := take_getD V i hil
        obtain ⟨X, hX⟩ : ∃ X, V.getD i 0 = X := ⟨_, rfl⟩
        rw [hX] at h1 htk
        have hws := joinedTo_snoc (V.take i) E x X
        rw [← htk] at hws
        have HWS := Lib.hid hws
        have hmx : m + 1 ≤ maxLen := by unfold maxLen; omega
        have HC := Lib.hid (HJ.out X wr hb0)
        clear hcell hX htk hil hbel hws hb0
        by_cases hxx : X = x
        · subst hxx
          have hb : (X != X) = false := by simp
          have hws := HWS.out
          rw [if_neg (by simp), List.append_nil] at hws
          have HW2 := Lib.hid hws
          clear hws
          go_wp2_with fail
          go_roundg k
          case measure => omega
          case rel => exact ⟨HK.out, i + 1, m, p, cap0, rfl, by go_num, by omega, by rw [HW2.out]; exact HMM.out, by omega, by rw [HW2.out]; exact HO.out, HB.out⟩
        · have hb : (X != x) = true := by simpa using hxx
          by_cases hj : Gr.joined E x X
          · have hd : decide (Gr.joined E x X) = true := by simpa using hj
            rw [hd] at HC
            have hws := HWS.out
            rw [if_pos ⟨hxx, hj⟩] at hws
            have HW2 := Lib.hid hws
            clear hj hd hws hxx
            go_wp2_with fail
            refine HC.out.mono ?_
            rintro e w2 ⟨rfl, hb2⟩
            have hk2 := HK.out.below hb2 HK.out.lt
            have hown2 := row_below HO.out hb2
            have hbb := HB.out.trans (hb2.mono hsz)
            have HK2 := Lib.hid hk2
            have HO2 := Lib.hid hown2
            have HB2 := Lib.hid hbb
            have hsz2 := hbb.size
            clear hb2 hk2 hown2 hbb
            go_wp2_with (at_builtin; refine wpList_append1 rfl _ _ 23 rfl (w.alloc (.cells #[.slice (some ⟨b1, o1, none⟩) n cap, ev] 25)).heap.size 3 (.int .i64 0) 8 Tryd.underlying23 info_int rfl _ m _ rfl HO2.out (.int .i64 X) rfl rfl hmx (by omega) hsz2 ?_; intro g cap1 w3 hown3 hg3 hb3)
            go_roundg k
            case measure => omega
            case rel =>
              refine ⟨HK2.out.below hb3 (by simp), i + 1, m + 1, some ⟨g, 0, none⟩, cap1, rfl, by go_num, by omega, by rw [HW2.out, List.length_append, ← HMM.out]; rfl, by omega, ?_, HB2.out.trans hb3⟩
              rw [HW2.out, i64s_app]
              exact hown3
          · have hd : decide (Gr.joined E x X) = false := by simpa using hj
            rw [hd] at HC
            have hws := HWS.out
            rw [if_neg (fun h => hj h.2), List.append_nil] at hws
            have HW2 := Lib.hid hws
            clear hj hd hws hxx
            go_wp2_with fail
            refine HC.out.mono ?_
            rintro e w2 ⟨rfl, hb2⟩
            have hk2 := HK.out.below hb2 HK.out.lt
            have hown2 := row_below HO.out hb2
            have hbb := HB.out.trans (hb2.mono hsz)
            have HK2 := Lib.hid hk2
            have HO2 := Lib.hid hown2
            have HB2 := Lib.hid hbb
            clear hb2 hk2 hown2 hbb
            go_wp2_with fail
            go_roundg k
            case measure => omega
            case rel => exact ⟨HK2.out, i + 1, m, p, cap0, rfl, by go_num, by omega, by rw [HW2.out]; exact HMM.out, by omega, by rw [HW2.out]; exact HO2.out, HB2.out⟩
    · obtain rfl : i = n := by omega
      have hd : decide ((i : Int) < (i : Int)) = false := by simp
      have hfin : V.take i = V := List.take_of_length_le (by rw [HL.out]; exact Nat.le_refl _)
      have HF := Lib.hid hfin
      clear hfin hbel hb0
      go_wp2_with fail
      go_ret
      have ho := HO.out
      rw [HF.out] at ho
      exact ⟨_, rfl, Sl.of_owns ho, HB0.out⟩
end Go.Proofs.YtdmkijdokmnicaaDoor
