/- Walks of spec.STHas, STWithout and STSame. -/
import Derived.Test.YtdmkijdokmnicaaDoorSetAll
namespace Go.Proofs.YtdmkijdokmnicaaDoor
set_option linter.unusedVariables false
open Go.RowKit

def HasLoop (n : Nat) (l : List Int) (x : Int) (w : World) (k : Nat) (idx : Value) (wr : World) : Prop :=
  ∃ i : Nat, idx = .int .i64 (i : Int) ∧ i + k = n ∧ x ∉ l.take i ∧ wr = w

set_option maxRecDepth 100000 in
set_option maxHeartbeats 1000000 in
theorem sthas_any (v : Value) (l : List Int) (x : Int) (w : World) (hv : Sl w v (i64s l)) (h9 : l.length ≤ 1000000) :
    Calls Tryd.prog 8 #[v, .int .i64 x] w fun e w' => e = .returned (.bool (decide (x ∈ l))) ∧ w = w' := by
  obtain ⟨a, n, cap, rfl, hla, hc, hm, hr⟩ := hv
  rw [i64s_len] at hla
  have hn1 : n ≤ 1000000 := by omega
  have HL := Lib.hid hla
  obtain ⟨T, hT⟩ : ∃ T, decide (x ∈ l) = T := ⟨_, rfl⟩
  have HTT := Lib.hid hT
  rw [hT]
  clear hla h9 hm hT
  go_enter Tryd.func8, Tryd.ntmps8
  go_wp2_with fail
  go_loopg [9] n (fun k idx wr => HasLoop n l x w k idx wr)
  case atStart => exact ⟨0, rfl, by omega, by simp, rfl⟩
  case round =>
    obtain ⟨i, rfl, hik, hno, rfl⟩ := hrel
    have HNO := Lib.hid hno
    clear hno
    by_cases hi : i < n
    · cases gk with
      | zero => omega
      | succ k =>
        obtain ⟨b1, o1, rfl, hcell⟩ := hr (by omega)
        have hil : i < l.length := by rw [HL.out]; exact hi
        have h1 := hcell i _ (i64s_at l i hil)
        have hmem : l.getD i 0 ∈ l := by
          rw [List.getD_eq_getElem?_getD, List.getElem?_eq_getElem hil]
          exact List.getElem_mem hil
        have htk := take_getD l i hil
        obtain ⟨X, hX⟩ : ∃ X, l.getD i 0 = X := ⟨_, rfl⟩
        rw [hX] at h1 hmem htk
        have HMEM := Lib.hid hmem
        have HTK := Lib.hid htk
        clear hr hcell hX hmem htk hil
        by_cases hxx : x = X
        · subst hxx
          have hT : T = true := by rw [← HTT.out]; simpa using HMEM.out
          have HT := Lib.hid hT
          have hb : (x == x) = true := by simp
          clear hT
          go_wp2_with fail
          go_ret
          exact ⟨by rw [HT.out]; rfl, rfl⟩
        · have hb : (x == X) = false := by simpa using hxx
          have HX := Lib.hid hxx
          clear hxx
          go_wp2_with fail
          go_roundg k
          case measure => omega
          case rel =>
            refine ⟨i + 1, by go_num, by omega, ?_, rfl⟩
            rw [HTK.out]
            intro h
            rcases List.mem_append.1 h with h | h
            · exact HNO.out h
            · exact HX.out (by simpa using h)
    · obtain rfl : i = n := by omega
      have hd : decide ((i : Int) < (i : Int)) = false := by simp
      have hT : T = false := by
        rw [← HTT.out]
        have := HNO.out
        rw [List.take_of_length_le (by rw [HL.out]; exact Nat.le_refl _)] at this
        simpa using this
      have HT := Lib.hid hT
      clear hT
      go_wp2_with fail
      go_ret
      exact ⟨by rw [HT.out]; rfl, rfl⟩

def wout (l less : List Int) : List Int := l.filter fun x => !decide (x ∈ less)
theorem wout_snoc (l less : List Int) (x : Int) : wout (l ++ [x]) less = wout l less ++ (if x ∈ less then [] else [x]) := by
  unfold wout
  rw [List.filter_append]
  by_cases h : x ∈ less <;> simp [h]
theorem wout_len (l less : List Int) : (wout l less).length ≤ l.length := List.length_filter_le _ _
theorem wout_nil {l less : List Int} (h : ∀ x, x ∈ l → x ∈ less) : wout l less = [] := by
  unfold wout
  rw [List.filter_eq_nil_iff]
  intro x hx
  simpa using h x hx

def WoutLoop (n : Nat) (l less : List Int) (w : World) (k : Nat) (out idx : Value) (wr : World) : Prop :=
  ∃ (i : Nat) (p : Option Addr) (m cap : Nat), out = .slice p m cap ∧ idx = .int .i64 (i : Int) ∧ i + k = n ∧ m = (wout (l.take i) less).length ∧ m ≤ i ∧ wr.ownsRow w.heap.size 3 1 (.slice p m cap) m (i64s (wout (l.take i) less)) ∧ Below w.heap.size w wr

set_option maxRecDepth 100000 in
set_option maxHeartbeats 2000000 in
theorem stwithout_any (v u : Value) (l less : List Int) (w : World) (hv : Sl w v (i64s l)) (hu : Sl w u (i64s less)) (h9 : l.length ≤ 1000000) (h8 : less.length ≤ 1000000) :
    Calls Tryd.prog 19 #[v, u] w fun e w' => ∃ p m cap, e = .returned (.slice p m cap) ∧ m = (wout l less).length ∧ w'.ownsRow w.heap.size 3 1 (.slice p m cap) m (i64s (wout l less)) ∧ Below w.heap.size w w' := by
  obtain ⟨a, n, cap, rfl, hla, hc, hm, hr⟩ := hv
  rw [i64s_len] at hla
  have hn1 : n ≤ 1000000 := by omega
  have HL := Lib.hid hla
  have HU := Lib.hid hu
  clear hla h9 hm hu
  go_enter Tryd.func19, Tryd.ntmps19
  go_wp2_with fail
  go_loopg [5, 10] n (fun k out idx wr => WoutLoop n l less w k out idx wr)
  case atStart => exact ⟨0, none, 0, 0, rfl, rfl, by omega, by simp [wout], Nat.le_refl _, by simpa [wout, i64s] using World.ownsRow_nil w w.heap.size 3 1, Below.refl _ _⟩
  case round =>
    obtain ⟨i, p, m, cap0, rfl, rfl, hik, hmm, hmi, hown, hbel⟩ := hrel
    have HMM := Lib.hid hmm
    have HO := Lib.hid hown
    have HB := Lib.hid hbel
    have hsz := hbel.size
    clear hmm hown
    by_cases hi : i < n
    · cases gk with
      | zero => omega
      | succ k =>
        obtain ⟨b1, o1, rfl, hcell⟩ := hr (by omega)
        have hil : i < l.length := by rw [HL.out]; exact hi
        have h1 := hcell i _ (i64s_at l i hil)
        rw [← hbel.cell (World.block_lt_of_cell? w _ h1)] at h1
        have htk := take_getD l i hil
        obtain ⟨X, hX⟩ : ∃ X, l.getD i 0 = X := ⟨_, rfl⟩
        rw [hX] at h1 htk
        have hws := wout_snoc (l.take i) less X
        rw [← htk] at hws
        have HWS := Lib.hid hws
        have hmx : m + 1 ≤ maxLen := by unfold maxLen; omega
        have HC := Lib.hid (sthas_any u less X wr (HU.out.below rfl hbel) h8)
        clear hr hcell hX htk hil hbel hws
        by_cases hin : X ∈ less
        · have hd : decide (X ∈ less) = true := by simpa using hin
          rw [hd] at HC
          have hws := HWS.out
          rw [if_pos hin, List.append_nil] at hws
          have HW2 := Lib.hid hws
          clear hin hd hws
          go_wp2_with fail
          refine HC.out.mono ?_
          rintro e w' ⟨rfl, rfl⟩
          go_wp2_with fail
          go_roundg k
          case measure => omega
          case rel => exact ⟨i + 1, p, m, cap0, rfl, by go_num, by omega, by rw [HW2.out]; exact HMM.out, by omega, by rw [HW2.out]; exact HO.out, HB.out⟩
        · have hd : decide (X ∈ less) = false := by simpa using hin
          rw [hd] at HC
          have hws := HWS.out
          rw [if_neg hin] at hws
          have HW2 := Lib.hid hws
          clear hin hd hws
          go_wp2_with fail
          refine HC.out.mono ?_
          rintro e w' ⟨rfl, rfl⟩
          go_wp2_with (at_builtin; refine wpList_append1 rfl _ _ 23 rfl w.heap.size 3 (.int .i64 0) 8 Tryd.underlying23 info_int rfl _ m _ rfl HO.out (.int .i64 X) rfl rfl hmx (by omega) hsz ?_; intro g cap1 w1 hown1 hg1 hb1)
          go_roundg k
          case measure => omega
          case rel =>
            refine ⟨i + 1, some ⟨g, 0, none⟩, m + 1, cap1, rfl, by go_num, by omega, by rw [HW2.out, List.length_append, ← HMM.out]; rfl, by omega, ?_, HB.out.trans hb1⟩
            rw [HW2.out, i64s_app]
            exact hown1
    · obtain rfl : i = n := by omega
      have hd : decide ((i : Int) < (i : Int)) = false := by simp
      have hfin : l.take i = l := List.take_of_length_le (by rw [HL.out]; exact Nat.le_refl _)
      have HF := Lib.hid hfin
      clear hfin hbel
      go_wp2_with fail
      go_ret
      have hm := HMM.out
      have ho := HO.out
      rw [HF.out] at hm ho
      exact ⟨p, m, cap0, rfl, hm, ho, HB.out⟩

set_option maxRecDepth 100000 in
set_option maxHeartbeats 2000000 in
/-- two lists with the same members, each once -/
theorem stsame_yes (v u : Value) (l k : List Int) (w : World) (hv : Sl w v (i64s l)) (hu : Sl w u (i64s k)) (h9 : l.length ≤ 1000000) (hl : l.Nodup) (hk : k.Nodup) (hlk : ∀ x, x ∈ l ↔ x ∈ k) :
    Calls Tryd.prog 10 #[v, u] w fun e w' => e = .returned (.bool true) ∧ Below w.heap.size w w' := by
  have hlen := Zs.len_same hl hk hlk
  have HV := Lib.hid hv
  have HU := Lib.hid hu
  have HC1 := Lib.hid (stwithout_any u v k l w hu hv (by omega) (by omega))
  rw [wout_nil (fun x hx => (hlk x).2 hx)] at HC1
  have HC2 := Lib.hid (fun w2 (hb : Below w.heap.size w w2) => stwithout_any v u l k w2 (hv.below rfl hb) (hu.below rfl hb) (by omega) (by omega))
  rw [wout_nil (fun x hx => (hlk x).1 hx)] at HC2
  obtain ⟨a, n, cap, rfl, hla, hc, hm, hr⟩ := hv
  obtain ⟨a2, n2, cap2, rfl, hla2, hc2, hm2, hr2⟩ := hu
  rw [i64s_len] at hla hla2
  obtain rfl : n2 = n := by omega
  have hn1 : n2 ≤ 1000000 := by omega
  have he : ((n2 : Int) == (n2 : Int)) = true := by simp
  clear hla hla2 h9 hm hm2 hr hr2 hc hc2 hlen hl hk hlk HV HU
  go_enter Tryd.func10, Tryd.ntmps10
  go_wp2_with fail
  refine HC1.out.mono ?_
  rintro e w1 ⟨p, m, c, rfl, hm, hown, hb⟩
  obtain rfl : m = 0 := hm
  have HB := Lib.hid hb
  clear hown hb
  go_wp2_with fail
  refine (HC2.out _ HB.out).mono ?_
  rintro e w2 ⟨p2, m2, c2, rfl, hm, hown, hb⟩
  obtain rfl : m2 = 0 := hm
  have HB2 := Lib.hid (HB.out.trans (hb.mono HB.out.size))
  clear hown hb
  go_wp2_with fail
  go_ret
  exact ⟨rfl, HB2.out⟩
end Go.Proofs.YtdmkijdokmnicaaDoor
