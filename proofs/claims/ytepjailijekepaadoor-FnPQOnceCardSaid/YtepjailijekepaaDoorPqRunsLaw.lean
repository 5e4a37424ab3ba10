/- FnPQRuns: a script of steps on a priority queue says what it may. -/
import Derived.Test.YtepjailijekepaaDoorPqSpecAny
import Derived.Test.YtepjailijekepaaDoorOpenRow
namespace Go.Proofs.YtepjailijekepaaDoor
set_option linter.unusedVariables false
open Go.RowKit Go.ChangeShapes Go.WideShapes Go.Deep
open Pqm

section
variable {H : Type} {enc : TypeId × Value → H} {W : World}
theorem pits_of : ∀ (rows : List (List Value)), (∀ r ∈ rows, ∃ x : It, r = pit x) → ∃ l, rows = pits l
  | [], _ => ⟨[], rfl⟩
  | r :: rs, h => by
    obtain ⟨x, rfl⟩ := h r (by simp)
    obtain ⟨l, rfl⟩ := pits_of rs (fun r hr => h r (by simp [hr]))
    exact ⟨x :: l, rfl⟩
theorem cellsit : Tryd.prog.cellsOf 45 = 2 := by kernel_rfl
theorem cellsst : Tryd.prog.cellsOf 24 = 3 := by kernel_rfl
theorem oneit : oneCellFields Tryd.prog (Tryd.prog.fieldsOf 45) = true := by kernel_rfl
theorem onest : oneCellFields Tryd.prog (Tryd.prog.fieldsOf 24) = true := by kernel_rfl
theorem row_it {row : List Value} (hl : row.length = 2) (h : Reads enc Tryd.prog W 45 row) : ∃ x : It, row = pit x := by
  have ho := oneit
  unfold Program.fieldsOf at ho
  rw [Tryd.underlying45] at ho
  obtain ⟨u0, h0, r0⟩ := h.field Tryd.underlying45 ho hl 0 _ rfl
  obtain ⟨u1, h1, r1⟩ := h.field Tryd.underlying45 ho hl 1 _ rfl
  obtain ⟨a, rfl, _⟩ := r0.int Tryd.underlying3
  obtain ⟨b, rfl, _⟩ := r1.int Tryd.underlying3
  match row, hl with
  | [x, y], _ =>
    simp at h0 h1
    subst h0; subst h1
    exact ⟨(a, b), rfl⟩
theorem items_of {rows : List (List Value)} (hl : ∀ r ∈ rows, r.length = 2) (h : ∀ r ∈ rows, Reads enc Tryd.prog W 45 r) : ∃ l, rows = pits l :=
  pits_of rows fun r hr => row_it (hl r hr) (h r hr)
theorem row_st {row : List Value} (hl : row.length = 3) (h : Reads enc Tryd.prog W 24 row) : ∃ (s : Stp) (v : Value), row = [.int .i64 s.1, .int .i64 s.2.1, v] ∧ Rw 2 W v (pits s.2.2) := by
  have ho := onest
  unfold Program.fieldsOf at ho
  rw [Tryd.underlying24] at ho
  obtain ⟨u0, h0, r0⟩ := h.field Tryd.underlying24 ho hl 0 _ rfl
  obtain ⟨u1, h1, r1⟩ := h.field Tryd.underlying24 ho hl 1 _ rfl
  obtain ⟨u2, h2, r2⟩ := h.field Tryd.underlying24 ho hl 2 _ rfl
  obtain ⟨a, rfl, _⟩ := r0.int Tryd.underlying3
  obtain ⟨b, rfl, _⟩ := r1.int Tryd.underlying3
  obtain ⟨rows, hrw, hrl, hrr⟩ := r2.rows Tryd.underlying22 cellsit (by decide)
  obtain ⟨l, rfl⟩ := items_of hrl hrr
  match row, hl with
  | [x, y, z], _ =>
    simp at h0 h1 h2
    subst h0; subst h1; subst h2
    exact ⟨(a, b, l), _, rfl, hrw⟩
theorem steps_of (w : World) : ∀ (rows : List (List Value)), (∀ r ∈ rows, ∃ (s : Stp) (v : Value), r = [.int .i64 s.1, .int .i64 s.2.1, v] ∧ Rw 2 w v (pits s.2.2)) → ∃ S, StepsAt w rows S
  | [], _ => ⟨[], rfl, fun i row s h => by simp at h⟩
  | r :: rs, h => by
    obtain ⟨s, v, h1, h2⟩ := h r (by simp)
    obtain ⟨S, h3, h4⟩ := steps_of w rs (fun r hr => h r (by simp [hr]))
    refine ⟨s :: S, by simp [h3], fun i row s' hi hs => ?_⟩
    cases i with
    | zero =>
      simp at hi hs
      subst hi; subst hs
      exact ⟨v, h1, h2⟩
    | succ i => exact h4 i row s' (by simpa using hi) (by simpa using hs)
/-- any steps -/
def AnySteps (w : World) (v : Value) : Prop := ∃ R S, Rw 3 w v R ∧ StepsAt w R S
def AnyIts (w : World) (v : Value) : Prop := ∃ l, Rw 2 w v (pits l)
theorem open_steps {v : Value} {d : DataW H} {p : List MemPlace} {r : Reach} {b0 : Nat} (hv : Value.okWide Tryd.prog W r b0 27 v) (h : DataW.Trod enc Tryd.prog W 0 (fun _ => true) true 27 v d p) : AnySteps W v := by
  obtain ⟨rows, h1, h2, h3⟩ := open_rows Tryd.underlying27 cellsst (by decide) hv h
  obtain ⟨S, hS⟩ := steps_of W rows (fun r hr => row_st (h2 r hr) (h3 r hr))
  exact ⟨rows, S, h1, hS⟩
theorem open_its {v : Value} {d : DataW H} {p : List MemPlace} {r : Reach} {b0 : Nat} (hv : Value.okWide Tryd.prog W r b0 22 v) (h : DataW.Trod enc Tryd.prog W 0 (fun _ => true) true 22 v d p) : AnyIts W v := by
  obtain ⟨rows, h1, h2, h3⟩ := open_rows Tryd.underlying22 cellsit (by decide) hv h
  obtain ⟨l, rfl⟩ := items_of h2 h3
  exact ⟨l, h1⟩
end

theorem StepsAt.below {w w' : World} {R : List (List Value)} {S : List Stp} (h : StepsAt w R S) (hb : Below w.heap.size w w') : StepsAt w' R S :=
  ⟨h.1, fun i row s hi hs => by obtain ⟨v, h1, h2⟩ := h.2 i row s hi hs; exact ⟨v, h1, h2.below rfl hb⟩⟩

/-- a step in its row -/
theorem step_cells {w : World} {b off n cap : Nat} {R : List (List Value)} {S : List Stp} (h : Rw 3 w (.slice (some ⟨b, off, none⟩) n cap) R) (hs : StepsAt w R S) (i : Nat) (hi : i < n) :
    ∃ (op sn : Int) (its : List It) (a : Option Addr) (c : Nat), S[i]? = some (op, sn, its) ∧ w.cell? ⟨b, off + i * 3, none⟩ = some (.int .i64 op) ∧ w.cell? ⟨b, off + i * 3 + 1, none⟩ = some (.int .i64 sn) ∧ w.cell? ⟨b, off + i * 3 + 2, none⟩ = some (.slice a its.length c) ∧ Rw 2 w (.slice a its.length c) (pits its) ∧ its.length ≤ maxLen := by
  obtain ⟨a, n', c', e, hn, hc, hm, hr⟩ := h
  injection e with e1 e2 e3
  subst e2
  obtain ⟨b', off', e4, hcell⟩ := hr (by omega)
  rw [← e1] at e4
  injection e4 with e4
  injection e4 with e4 e5
  subst e4; subst e5
  have hiR : i < R.length := by omega
  have hiS : i < S.length := by rw [← hs.1]; exact hiR
  obtain ⟨v, hrow, hrw⟩ := hs.2 i _ _ (List.getElem?_eq_getElem hiR) (List.getElem?_eq_getElem hiS)
  obtain ⟨va, vc, rfl⟩ := rw_out hrw
  have hR := List.getElem?_eq_getElem hiR
  rw [hrow] at hR
  have hs1 := hrw.some
  refine ⟨S[i].1, S[i].2.1, S[i].2.2, va, vc, List.getElem?_eq_getElem hiS, ?_, ?_, ?_, hrw, by omega⟩
  · exact hcell i _ hR 0 _ rfl
  · have := hcell i _ hR 1 _ rfl; rwa [← Nat.add_assoc] at this
  · have := hcell i _ hR 2 _ rfl; rwa [← Nat.add_assoc] at this

set_option maxRecDepth 100000 in
theorem fits13_any (op n : Int) (a : Option Addr) (m c : Nat) (w : World) (hm : m ≤ maxLen) :
    Calls Tryd.prog 16 #[.agg #[.int .i64 op, .int .i64 n, .slice a m c]] w fun e w' => e = .returned (.bool (decide ((m : Int) ≤ 2147483647))) ∧ Below w.heap.size w w' := by
  unfold maxLen at hm
  by_cases h : (m : Int) ≤ 2147483647
  · have hd : decide ((2147483647 : Int) < (m : Int)) = false := by simp; omega
    have hb : decide ((m : Int) ≤ 2147483647) = true := by simpa using h
    rw [hb]
    clear hb
    go_enter Tryd.func16, Tryd.ntmps16
    go_wp2_with fail
    go_ret
    exact ⟨rfl, (Below.refl _ _).alloc (Nat.le_refl _) _⟩
  · have hd : decide ((2147483647 : Int) < (m : Int)) = true := by simp; omega
    have hb : decide ((m : Int) ≤ 2147483647) = false := by simpa using h
    rw [hb]
    clear hb
    go_enter Tryd.func16, Tryd.ntmps16
    go_wp2_with fail
    go_ret
    exact ⟨rfl, (Below.refl _ _).alloc (Nat.le_refl _) _⟩

def FitLoop (n : Nat) (w : World) (k : Nat) (idx : Value) (wr : World) : Prop :=
  ∃ i : Nat, idx = .int .i64 (i : Int) ∧ i + k = n ∧ Below w.heap.size w wr

/-- a truth value that tells P -/
def SomeBool (P : Bool → Prop) (w : World) (e : Ending) (w' : World) : Prop := ∃ b, e = .returned (.bool b) ∧ P b ∧ Below w.heap.size w w'

set_option maxRecDepth 100000 in
set_option maxHeartbeats 1000000 in
theorem fits12_any (v : Value) (R : List (List Value)) (S : List Stp) (w : World) (hv : Rw 3 w v R) (hst : StepsAt w R S) :
    Calls Tryd.prog 8 #[v] w (SomeBool (fun b => b = true → S.length ≤ 2147483647) w) := by
  obtain ⟨a, n, cap, rfl, _⟩ := id hv
  have hsm := hv.some
  obtain ⟨hla, hc, hm, hr⟩ := hsm
  have hnS : S.length = n := by rw [← hst.1, hla]
  have hmm : n ≤ maxLen := by omega
  have HV := Lib.hid hv
  have HST := Lib.hid hst
  have HNS := Lib.hid hnS
  unfold maxLen at hmm
  clear hv hst hnS hla
  by_cases h : (n : Int) ≤ 2147483647
  · have hd : decide ((2147483647 : Int) < (n : Int)) = false := by simp; omega
    go_enter Tryd.func8, Tryd.ntmps8
    go_wp2_with fail
    go_loopg [10] n (fun k idx wr => FitLoop n w k idx wr)
    case atStart => exact ⟨0, rfl, by omega, Below.refl _ _⟩
    case round =>
      obtain ⟨i, rfl, hik, hbel⟩ := hrel
      have HB := Lib.hid hbel
      have hsz := hbel.size
      clear hbel
      by_cases hi : i < n
      · cases gk with
        | zero => omega
        | succ k =>
          obtain ⟨b1, o1, rfl⟩ := hr (by omega)
          obtain ⟨op, sn, its, va, vc, hS, d0, d1, d2, hrw, hm9⟩ := step_cells HV.out HST.out i hi
          rw [← HB.out.cell (World.block_lt_of_cell? w _ d0)] at d0
          rw [← HB.out.cell (World.block_lt_of_cell? w _ d1)] at d1
          rw [← HB.out.cell (World.block_lt_of_cell? w _ d2)] at d2
          obtain ⟨L, hL⟩ : ∃ L, its.length = L := ⟨_, rfl⟩
          rw [hL] at d2 hm9
          have HC := Lib.hid (fun wx : World => fits13_any op sn va L vc wx hm9)
          have HBZ : Hid (Below wr.heap.size wr (wr.alloc (.cells #[.int .i64 op, .int .i64 sn, .slice va L vc] 24))) := Lib.hid ((Below.refl _ _).alloc (Nat.le_refl _) _)
          clear hr hS hrw hL hm9
          by_cases hf : (L : Int) ≤ 2147483647
          · have hb : decide ((L : Int) ≤ 2147483647) = true := by simpa using hf
            rw [hb] at HC
            clear hb hf
            go_wp2_with fail
            refine (HC.out _).mono ?_
            rintro e w2 ⟨rfl, hb2⟩
            have HB2 := Lib.hid hb2
            clear hb2
            go_wp2_with fail
            go_roundg k
            case measure => omega
            case rel => exact ⟨i + 1, by go_num, by omega, HB.out.trans ((HBZ.out.trans (HB2.out.mono (by simp))).mono hsz)⟩
          · have hb : decide ((L : Int) ≤ 2147483647) = false := by simpa using hf
            rw [hb] at HC
            clear hb hf
            go_wp2_with fail
            refine (HC.out _).mono ?_
            rintro e w2 ⟨rfl, hb2⟩
            have HB2 := Lib.hid hb2
            clear hb2
            go_wp2_with fail
            go_ret
            exact ⟨false, rfl, (fun h => by cases h), HB.out.trans ((HBZ.out.trans (HB2.out.mono (by simp))).mono hsz)⟩
      · obtain ⟨I, hI⟩ : ∃ I, I = n := ⟨_, rfl⟩
        obtain rfl : i = I := by omega
        subst hI
        have hdd : decide ((i : Int) < (i : Int)) = false := by simp
        go_wp2_with fail
        go_ret
        exact ⟨true, rfl, (fun _ => by rw [HNS.out]; omega), HB.out⟩
  · have hd : decide ((2147483647 : Int) < (n : Int)) = true := by simp; omega
    go_enter Tryd.func8, Tryd.ntmps8
    go_wp2_with fail
    go_ret
    exact ⟨false, rfl, (fun h => by cases h), Below.refl _ _⟩
end Go.Proofs.YtepjailijekepaaDoor
