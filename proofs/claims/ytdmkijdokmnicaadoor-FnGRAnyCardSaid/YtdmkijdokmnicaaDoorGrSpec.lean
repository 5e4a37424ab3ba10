/- Walks of spec.STWith and (GRGraph).Joined. -/
import Derived.Test.YtdmkijdokmnicaaDoorGrTake
namespace Go.Proofs.YtdmkijdokmnicaaDoor
set_option linter.unusedVariables false
open Go.RowKit

theorem own_len' {w : World} {B : Nat} {e : TypeId} {size : Nat} {p : Option Addr} {m cap n : Nat} {xs : List Value} (h : w.ownsRow B e size (.slice p m cap) n xs) : m = n := by
  rcases h.2 with ⟨e1, e2⟩ | ⟨g, c, cur, e1, _⟩
  · simp only [Value.slice.injEq] at e1; omega
  · simp only [Value.slice.injEq] at e1; omega
theorem i64s_cells (l : List Int) : ∀ u ∈ i64s l, u.oneCell' = true := by
  intro u hu
  obtain ⟨n, _, rfl⟩ := List.mem_map.1 hu
  rfl

def WithLoop (l more : List Int) (n : Nat) (w : World) (k : Nat) (out idx : Value) (wr : World) : Prop :=
  ∃ (i m : Nat) (p : Option Addr) (cap : Nat), out = .slice p m cap ∧ idx = .int .i64 (i : Int) ∧ i + k = n ∧ m = (Zs.addAll l (more.take i)).length ∧ wr.ownsRow w.heap.size 3 1 (.slice p m cap) m (i64s (Zs.addAll l (more.take i))) ∧ Below w.heap.size w wr

set_option maxRecDepth 100000 in
set_option maxHeartbeats 2000000 in
theorem stwith_any (v u : Value) (l more : List Int) (w : World) (hv : Sl w v (i64s l)) (hu : Sl w u (i64s more)) (h9 : l.length ≤ 100000) (h8 : more.length ≤ 100000) :
    Calls Tryd.prog 23 #[v, u] w fun e w' => ∃ v', e = .returned v' ∧ w'.ownsRow w.heap.size 3 1 v' (Zs.addAll l more).length (i64s (Zs.addAll l more)) ∧ Below w.heap.size w w' := by
  obtain ⟨a, n, cap, rfl, hla, hc, hm, hr⟩ := hu
  rw [i64s_len] at hla
  have hn1 : n ≤ 100000 := by omega
  have HL := Lib.hid hla
  have HV := Lib.hid hv
  have HR := Lib.hid hr
  have HCL := Lib.hid (i64s_cells l)
  have hb1 : 0 + (i64s l).length ≤ maxLen := by rw [i64s_len]; unfold maxLen; omega
  have hb2 : (0 + (i64s l).length) * 8 ≤ 140737488355328 := by rw [i64s_len]; omega
  have HB1 := Lib.hid hb1
  have HB2 := Lib.hid hb2
  clear hla hv hr hc hm hb1 hb2 h8
  go_enter Tryd.func23, Tryd.ntmps23
  go_wp2_with (at_builtin; refine wpList_appendSl rfl _ _ 23 23 rfl w.heap.size 3 3 (.int .i64 0) 8 Tryd.underlying23 Tryd.underlying23 info_int rfl (.slice none 0 0) 0 [] rfl (World.ownsRow_nil _ _ _ _) _ (i64s l) rfl HV.out HCL.out HB1.out HB2.out (Nat.le_refl _) ?_; intro p1 m1 cap1 w1 hown1 hg1 hbl1)
  have hm1 : m1 = l.length := by have h2 := own_len' hown1; rw [i64s_len] at h2; omega
  have ho1 : w1.ownsRow w.heap.size 3 1 (.slice p1 m1 cap1) m1 (i64s l) := by
    have := hown1
    rw [i64s_len, List.nil_append, Nat.zero_add, ← hm1] at this
    exact this
  have HO1 := Lib.hid ho1
  have HBL := Lib.hid hbl1
  have HM1 := Lib.hid hm1
  clear hown1 hg1 hbl1 ho1 hm1 HV HCL HB1 HB2
  go_loopg [5, 12] n (fun k out idx wr => WithLoop l more n w k out idx wr)
  case atStart => exact ⟨0, m1, p1, cap1, rfl, rfl, by omega, by simpa [Zs.addAll] using HM1.out, by simpa [Zs.addAll] using HO1.out, HBL.out⟩
  case round =>
    obtain ⟨i, m, p, cap0, rfl, rfl, hik, hmm, hown, hbel⟩ := hrel
    have HMM := Lib.hid hmm
    have HO := Lib.hid hown
    have HB := Lib.hid hbel
    have hsz := hbel.size
    have hml : m ≤ 200000 := by
      have h1 := Zs.len_add (more.take i) l
      have h2 : (more.take i).length ≤ more.length := by rw [List.length_take]; omega
      have := HL.out
      omega
    clear hmm hown
    by_cases hi : i < n
    · cases gk with
      | zero => omega
      | succ k =>
        obtain ⟨b1, o1, rfl, hcell⟩ := HR.out (by omega)
        have hil : i < more.length := by rw [HL.out]; exact hi
        have h1 := hcell i _ (i64s_at more i hil)
        rw [← hbel.cell (World.block_lt_of_cell? w _ h1)] at h1
        have htk := take_getD more i hil
        obtain ⟨X, hX⟩ : ∃ X, more.getD i 0 = X := ⟨_, rfl⟩
        rw [hX] at h1 htk
        have hws := Zs.add_snoc l (more.take i) X
        rw [← htk] at hws
        have HWS := Lib.hid hws
        obtain ⟨Y, hY⟩ : ∃ Y, Zs.addAll l (more.take i) = Y := ⟨_, rfl⟩
        rw [hY] at HMM HO HWS
        have hmx : m + 1 ≤ maxLen := by unfold maxLen; omega
        have HC := Lib.hid (sthas_any (.slice p m cap0) Y X wr (Sl.of_owns HO.out) (by rw [← HMM.out]; omega))
        clear hcell hX htk hil hbel hws hY
        by_cases hin : X ∈ Y
        · have hd : decide (X ∈ Y) = true := by simpa using hin
          rw [hd] at HC
          have hws := HWS.out
          rw [if_pos hin] at hws
          have HW2 := Lib.hid hws
          clear hin hd hws
          go_wp2_with fail
          refine HC.out.mono ?_
          rintro e w' ⟨rfl, rfl⟩
          go_wp2_with fail
          go_roundg k
          case measure => omega
          case rel => exact ⟨i + 1, m, p, cap0, rfl, by go_num, by omega, by rw [HW2.out]; exact HMM.out, by rw [HW2.out]; exact HO.out, HB.out⟩
        · have hd : decide (X ∈ Y) = false := by simpa using hin
          rw [hd] at HC
          have hws := HWS.out
          rw [if_neg hin] at hws
          have HW2 := Lib.hid hws
          clear hin hd hws
          go_wp2_with fail
          refine HC.out.mono ?_
          rintro e w' ⟨rfl, rfl⟩
          go_wp2_with (at_builtin; refine wpList_append1 rfl _ _ 23 rfl w.heap.size 3 (.int .i64 0) 8 Tryd.underlying23 info_int rfl _ m _ rfl HO.out (.int .i64 X) rfl rfl hmx (by omega) hsz ?_; intro g cap1 w1 hown1 hg1 hb1)
          go_roundg k
          case measure => omega
          case rel =>
            refine ⟨i + 1, m + 1, some ⟨g, 0, none⟩, cap1, rfl, by go_num, by omega, by rw [HW2.out, List.length_append, ← HMM.out]; rfl, ?_, HB.out.trans hb1⟩
            rw [HW2.out, i64s_app]
            exact hown1
    · obtain rfl : i = n := by omega
      have hd : decide ((i : Int) < (i : Int)) = false := by simp
      have hfin : more.take i = more := List.take_of_length_le (by rw [HL.out]; exact Nat.le_refl _)
      have HF := Lib.hid hfin
      clear hfin hbel
      go_wp2_with fail
      go_ret
      have ho := HO.out
      rw [HMM.out, HF.out] at ho
      exact ⟨_, rfl, by rw [HMM.out, HF.out]; exact ho, HB.out⟩

/-- the edges of a graph of the reference: nil, or a slice of at least one -/
def EsAt (w : World) (v : Value) (E : List Gr.Ed) : Prop :=
  (v = .slice none 0 0 ∧ E = []) ∨ ∃ g o n cap, v = .slice (some ⟨g, o, none⟩) n cap ∧ E.length = n ∧ 0 < n ∧ n ≤ cap ∧ cap ≤ maxLen ∧ ∀ i x, E[i]? = some x → w.cell? ⟨g, o + i * 2, none⟩ = some (.int .i64 x.1) ∧ w.cell? ⟨g, o + i * 2 + 1, none⟩ = some (.int .i64 x.2)
theorem EsAt.below {w w' : World} {v : Value} {E : List Gr.Ed} (h : EsAt w v E) (hb : Below w.heap.size w w') : EsAt w' v E := by
  rcases h with h | ⟨g, o, n, cap, rfl, h1, h2, h3, h4, h5⟩
  · exact .inl h
  · refine .inr ⟨g, o, n, cap, rfl, h1, h2, h3, h4, fun i x hx => ?_⟩
    obtain ⟨q0, q1⟩ := h5 i x hx
    exact ⟨(hb.cell (World.block_lt_of_cell? w _ q0)).trans q0, (hb.cell (World.block_lt_of_cell? w _ q1)).trans q1⟩

def JoLoop (E : List Gr.Ed) (x y : Int) (n : Nat) (w : World) (k : Nat) (idx : Value) (wr : World) : Prop :=
  ∃ i : Nat, idx = .int .i64 (i : Int) ∧ i + k = n ∧ ¬ Gr.joined (E.take i) x y ∧ Below w.heap.size w wr
theorem joined_snoc (E : List Gr.Ed) (e : Gr.Ed) (x y : Int) : Gr.joined (E ++ [e]) x y ↔ Gr.joined E x y ∨ ((e.1 = x ∧ e.2 = y) ∨ (e.1 = y ∧ e.2 = x)) := by
  obtain ⟨a, b⟩ := e
  unfold Gr.joined
  simp only [List.mem_append, List.mem_singleton, Prod.mk.injEq]
  constructor
  · rintro ((h | ⟨rfl, rfl⟩) | (h | ⟨rfl, rfl⟩))
    · exact .inl (.inl h)
    · exact .inr (.inl ⟨rfl, rfl⟩)
    · exact .inl (.inr h)
    · exact .inr (.inr ⟨rfl, rfl⟩)
  · rintro ((h | h) | (⟨rfl, rfl⟩ | ⟨rfl, rfl⟩))
    · exact .inl (.inl h)
    · exact .inr (.inl h)
    · exact .inl (.inr ⟨rfl, rfl⟩)
    · exact .inr (.inr ⟨rfl, rfl⟩)
theorem joined_mono {E F : List Gr.Ed} (h : ∀ e ∈ E, e ∈ F) {x y : Int} (hj : Gr.joined E x y) : Gr.joined F x y := by
  unfold Gr.joined at hj ⊢
  rcases hj with hj | hj
  · exact .inl (h _ hj)
  · exact .inr (h _ hj)

set_option maxRecDepth 100000 in
set_option maxHeartbeats 4000000 in
theorem joined_any (vv ev : Value) (E : List Gr.Ed) (x y : Int) (w : World) (hv : EsAt w ev E) (h9 : E.length ≤ 1000) :
    Calls Tryd.prog 18 #[.agg #[vv, ev], .int .i64 x, .int .i64 y] w fun e w' => e = .returned (.bool (decide (Gr.joined E x y))) ∧ Below w.heap.size w w' := by
  rcases hv with ⟨rfl, rfl⟩ | ⟨g, o, n, cap, rfl, hl, h0, hc, hm, hcell⟩
  · have e0 : decide (Gr.joined [] x y) = false := by simp [Gr.joined]
    rw [e0]
    clear e0 h9
    go_enter Tryd.func18, Tryd.ntmps18
    go_wp2_with fail
    go_loopg [12] 0 (fun k idx wr => idx = .int .i64 0 ∧ Below w.heap.size w wr)
    case atStart => exact ⟨rfl, (Below.refl _ _).alloc (Nat.le_refl _) _⟩
    case round =>
      obtain ⟨rfl, hb⟩ := hrel
      have HB := Lib.hid hb
      clear hb
      go_wp2_with fail
      go_ret
      exact ⟨rfl, HB.out⟩
  · have HL := Lib.hid hl
    have HC := Lib.hid hcell
    obtain ⟨T, hT⟩ : ∃ T, decide (Gr.joined E x y) = T := ⟨_, rfl⟩
    rw [hT]
    have HT := Lib.hid hT
    have hn9 : n ≤ 1000 := by omega
    clear hl hcell hT hm h9 hc
    go_enter Tryd.func18, Tryd.ntmps18
    go_wp2_with fail
    go_loopg [12] n (fun k idx wr => JoLoop E x y n w k idx wr)
    case atStart => exact ⟨0, rfl, by omega, by simp [Gr.joined], (Below.refl _ _).alloc (Nat.le_refl _) _⟩
    case round =>
      obtain ⟨i, rfl, hik, hno, hb⟩ := hrel
      have HNO := Lib.hid hno
      have HB := Lib.hid hb
      have hsz := hb.size
      clear hno
      by_cases hi : i < n
      · cases gk with
        | zero => omega
        | succ k =>
          have hil : i < E.length := by rw [HL.out]; exact hi
          obtain ⟨⟨X, Y⟩, hx⟩ : ∃ e, E[i]? = some e := ⟨E[i], by simp [hil]⟩
          obtain ⟨q0, q1⟩ := HC.out i _ hx
          rw [← hb.cell (World.block_lt_of_cell? w _ q0)] at q0
          rw [← hb.cell (World.block_lt_of_cell? w _ q1)] at q1
          simp only at q0 q1
          have htk : E.take (i + 1) = E.take i ++ [(X, Y)] := by
            rw [List.take_succ_eq_append_getElem hil]
            have := List.getElem?_eq_getElem hil
            rw [hx] at this
            injection this with this
            rw [← this]
          have HTK := Lib.hid htk
          have hyes : ((X = x ∧ Y = y) ∨ (X = y ∧ Y = x)) → T = true := fun h => by
            rw [← HT.out]
            have : Gr.joined (E.take (i + 1)) x y := by rw [htk, joined_snoc]; exact .inr h
            simpa using joined_mono (fun e he => List.mem_of_mem_take he) this
          have hnot : ¬ ((X = x ∧ Y = y) ∨ (X = y ∧ Y = x)) → ¬ Gr.joined (E.take (i + 1)) x y := fun h => by
            rw [htk, joined_snoc]
            rintro (h1 | h1)
            · exact HNO.out h1
            · exact h h1
          have HY := Lib.hid hyes
          have HN := Lib.hid hnot
          clear hx htk hyes hnot hil hb
          by_cases hyy : (X = x ∧ Y = y) ∨ (X = y ∧ Y = x)
          · have hTT := HY.out hyy
            have HTT := Lib.hid hTT
            clear hTT
            by_cases h1 : X = x <;> by_cases h2 : Y = y <;> by_cases h3 : X = y <;> by_cases h4 : Y = x
            all_goals first
              | (exfalso; omega)
              | skip
            all_goals
              (first | (have b1 : (X == x) = true := by simpa using h1) | (have b1 : (X == x) = false := by simpa using h1))
              (first | (have b2 : (Y == y) = true := by simpa using h2) | (have b2 : (Y == y) = false := by simpa using h2))
              (first | (have b3 : (X == y) = true := by simpa using h3) | (have b3 : (X == y) = false := by simpa using h3))
              (first | (have b4 : (Y == x) = true := by simpa using h4) | (have b4 : (Y == x) = false := by simpa using h4))
              clear hyy h1 h2 h3 h4
              go_wp2_with fail
              go_ret
              exact ⟨by rw [HTT.out]; rfl, HB.out.alloc hsz _⟩
          · have hNN := HN.out hyy
            have HNN := Lib.hid hNN
            clear hNN
            by_cases h1 : X = x <;> by_cases h2 : Y = y <;> by_cases h3 : X = y <;> by_cases h4 : Y = x
            all_goals first
              | (exfalso; omega)
              | skip
            all_goals
              (first | (have b1 : (X == x) = true := by simpa using h1) | (have b1 : (X == x) = false := by simpa using h1))
              (first | (have b2 : (Y == y) = true := by simpa using h2) | (have b2 : (Y == y) = false := by simpa using h2))
              (first | (have b3 : (X == y) = true := by simpa using h3) | (have b3 : (X == y) = false := by simpa using h3))
              (first | (have b4 : (Y == x) = true := by simpa using h4) | (have b4 : (Y == x) = false := by simpa using h4))
              clear hyy h1 h2 h3 h4
              go_wp2_with fail
              go_roundg k
              case measure => omega
              case rel => exact ⟨i + 1, by go_num, by omega, HNN.out, HB.out.alloc hsz _⟩
      · obtain rfl : i = n := by omega
        have hd : decide ((i : Int) < (i : Int)) = false := by simp
        have hfin : E.take i = E := List.take_of_length_le (by rw [HL.out]; exact Nat.le_refl _)
        have hT : T = false := by
          rw [← HT.out]
          have := HNO.out
          rw [hfin] at this
          simpa using this
        have HTT := Lib.hid hT
        clear hfin hT hb
        go_wp2_with fail
        go_ret
        exact ⟨by rw [HTT.out]; rfl, HB.out⟩
end Go.Proofs.YtdmkijdokmnicaaDoor
