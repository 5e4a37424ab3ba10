/- The opener of the scripts of an AVL tree, and the walks of the law's bounds. -/
import Derived.Test.YtnfkjcopeljknaaAvAll
import Derived.Test.YtnfkjcopeljknaaOpenRow
import Derived.BigQuiet
import Derived.Deep.QuietTactic
namespace Go.Proofs.Ytnfkjcopeljknaa
set_option linter.unusedVariables false
open Go.RowKit Avm Go.ChangeShapes Go.WideShapes Go.Deep

abbrev RStp := Int × Int × Lst
def RStepsAt (w : World) (R : List (List Value)) (S : List RStp) : Prop := R.length = S.length ∧ ∀ (i : Nat) (row : List Value) (s : RStp), R[i]? = some row → S[i]? = some s → ∃ v, row = [.int .i64 s.1, .int .i64 s.2.1, v] ∧ Rw 2 w v (aes s.2.2)
theorem Rw.some {S : Nat} {w : World} {a : Option Addr} {n cap : Nat} {rows : List (List Value)} (h : Rw S w (.slice a n cap) rows) : rows.length = n ∧ n ≤ cap ∧ cap ≤ maxLen ∧ (0 < n → ∃ b off, a = some ⟨b, off, none⟩) := by
  obtain ⟨a', n', c', e, hn, hc, hm, hr⟩ := h
  injection e with e1 e2 e3
  subst e1; subst e2; subst e3
  exact ⟨hn, hc, hm, fun h0 => by obtain ⟨b, off, e, _⟩ := hr h0; exact ⟨b, off, e⟩⟩
theorem rw_out {w : World} {v : Value} {l : Lst} (h : Rw 2 w v (aes l)) : ∃ a c, v = .slice a l.length c := by
  obtain ⟨a, n, c, rfl, hn, _⟩ := h
  rw [aes_len] at hn
  exact ⟨a, c, by rw [hn]⟩

section
variable {H : Type} {enc : TypeId × Value → H} {W : World}
theorem aes_of : ∀ (rows : List (List Value)), (∀ r ∈ rows, ∃ x : Int × Int, r = [.int .i64 x.1, .int .i64 x.2]) → ∃ l, rows = aes l
  | [], _ => ⟨[], rfl⟩
  | r :: rs, h => by
    obtain ⟨x, rfl⟩ := h r (by simp)
    obtain ⟨l, rfl⟩ := aes_of rs (fun r hr => h r (by simp [hr]))
    exact ⟨x :: l, rfl⟩
theorem cellsit : Try.prog.cellsOf 25 = 2 := by kernel_rfl
theorem cellsst : Try.prog.cellsOf 32 = 3 := by kernel_rfl
theorem oneit : oneCellFields Try.prog (Try.prog.fieldsOf 25) = true := by kernel_rfl
theorem onest : oneCellFields Try.prog (Try.prog.fieldsOf 32) = true := by kernel_rfl
set_option maxRecDepth 100000 in
theorem row_it {row : List Value} (hl : row.length = 2) (h : Reads enc Try.prog W 25 row) : ∃ x : Int × Int, row = [.int .i64 x.1, .int .i64 x.2] := by
  have ho := oneit
  unfold Program.fieldsOf at ho
  rw [Try.underlying25] at ho
  obtain ⟨u0, h0, r0⟩ := h.field Try.underlying25 ho hl 0 _ rfl
  obtain ⟨u1, h1, r1⟩ := h.field Try.underlying25 ho hl 1 _ rfl
  obtain ⟨a, rfl, _⟩ := r0.int Try.underlying3
  obtain ⟨b, rfl, _⟩ := r1.int Try.underlying3
  match row, hl with
  | [x, y], _ =>
    simp at h0 h1
    subst h0; subst h1
    exact ⟨(a, b), rfl⟩
theorem items_of {rows : List (List Value)} (hl : ∀ r ∈ rows, r.length = 2) (h : ∀ r ∈ rows, Reads enc Try.prog W 25 r) : ∃ l, rows = aes l :=
  aes_of rows fun r hr => row_it (hl r hr) (h r hr)
set_option maxRecDepth 100000 in
theorem row_st {row : List Value} (hl : row.length = 3) (h : Reads enc Try.prog W 32 row) : ∃ (s : RStp) (v : Value), row = [.int .i64 s.1, .int .i64 s.2.1, v] ∧ Rw 2 W v (aes s.2.2) := by
  have ho := onest
  unfold Program.fieldsOf at ho
  rw [Try.underlying32] at ho
  obtain ⟨u0, h0, r0⟩ := h.field Try.underlying32 ho hl 0 _ rfl
  obtain ⟨u1, h1, r1⟩ := h.field Try.underlying32 ho hl 1 _ rfl
  obtain ⟨u2, h2, r2⟩ := h.field Try.underlying32 ho hl 2 _ rfl
  obtain ⟨a, rfl, _⟩ := r0.int Try.underlying3
  obtain ⟨b, rfl, _⟩ := r1.int Try.underlying3
  obtain ⟨rows, hrw, hrl, hrr⟩ := r2.rows Try.underlying22 cellsit (by decide)
  obtain ⟨l, rfl⟩ := items_of hrl hrr
  match row, hl with
  | [x, y, z], _ =>
    simp at h0 h1 h2
    subst h0; subst h1; subst h2
    exact ⟨(a, b, l), _, rfl, hrw⟩
theorem steps_of (w : World) : ∀ (rows : List (List Value)), (∀ r ∈ rows, ∃ (s : RStp) (v : Value), r = [.int .i64 s.1, .int .i64 s.2.1, v] ∧ Rw 2 w v (aes s.2.2)) → ∃ S, RStepsAt w rows S
  | [], _ => ⟨[], rfl, fun i row s h => by simp at h⟩
  | r :: rs, h => by
    obtain ⟨s, v, h1, h2⟩ := h r (by simp)
    obtain ⟨S, h3, h4⟩ := steps_of w rs (fun r hr => h r (by simp [hr]))
    refine ⟨s :: S, by simp [h3], fun i row s' hi hs => ?_⟩
    cases i with
    | zero =>
      simp at hi hs
      subst hi; subst hs
      exact ⟨v, h1, h2⟩
    | succ i => exact h4 i row s' (by simpa using hi) (by simpa using hs)
/-- any steps -/
def AnyAv (w : World) (v : Value) : Prop := ∃ R S, Rw 3 w v R ∧ RStepsAt w R S
def AnyIts (w : World) (v : Value) : Prop := ∃ l, Rw 2 w v (aes l)
set_option maxRecDepth 100000 in
theorem open_steps {v : Value} {d : DataW H} {p : List MemPlace} {r : Reach} {b0 : Nat} (hv : Value.okWide Try.prog W r b0 33 v) (h : DataW.Trod enc Try.prog W 0 (fun _ => true) true 33 v d p) : AnyAv W v := by
  obtain ⟨rows, h1, h2, h3⟩ := open_rows Try.underlying33 cellsst (by decide) hv h
  obtain ⟨S, hS⟩ := steps_of W rows (fun r hr => row_st (h2 r hr) (h3 r hr))
  exact ⟨rows, S, h1, hS⟩
set_option maxRecDepth 100000 in
theorem open_its {v : Value} {d : DataW H} {p : List MemPlace} {r : Reach} {b0 : Nat} (hv : Value.okWide Try.prog W r b0 22 v) (h : DataW.Trod enc Try.prog W 0 (fun _ => true) true 22 v d p) : AnyIts W v := by
  obtain ⟨rows, h1, h2, h3⟩ := open_rows Try.underlying22 cellsit (by decide) hv h
  obtain ⟨l, rfl⟩ := items_of h2 h3
  exact ⟨l, h1⟩
end

theorem RStepsAt.below {w w' : World} {R : List (List Value)} {S : List RStp} (h : RStepsAt w R S) (hb : Below w.heap.size w w') : RStepsAt w' R S :=
  ⟨h.1, fun i row s hi hs => by obtain ⟨v, h1, h2⟩ := h.2 i row s hi hs; exact ⟨v, h1, h2.below rfl hb⟩⟩

/-- a step in its row -/
theorem step_cells {w : World} {b off n cap : Nat} {R : List (List Value)} {S : List RStp} (h : Rw 3 w (.slice (some ⟨b, off, none⟩) n cap) R) (hs : RStepsAt w R S) (i : Nat) (hi : i < n) :
    ∃ (op sn : Int) (its : Lst) (a : Option Addr) (c : Nat), S[i]? = some (op, sn, its) ∧ w.cell? ⟨b, off + i * 3, none⟩ = some (.int .i64 op) ∧ w.cell? ⟨b, off + i * 3 + 1, none⟩ = some (.int .i64 sn) ∧ w.cell? ⟨b, off + i * 3 + 2, none⟩ = some (.slice a its.length c) ∧ Rw 2 w (.slice a its.length c) (aes its) ∧ its.length ≤ maxLen := by
  obtain ⟨a, n', c', e, hn, hc, hm, hr⟩ := h
  injection e with e1 e2 e3
  subst e2
  obtain ⟨b', off', e4, hcell⟩ := hr (by omega)
  rw [← e1] at e4
  injection e4 with e4
  injection e4 with e4 e5
  subst e4; subst e5
  have hiR : i < R.length := by omega
  have hiS : i < S.length := by rw [← hs.1]; exact hiR
  obtain ⟨v, hrow, hrw⟩ := hs.2 i _ _ (List.getElem?_eq_getElem hiR) (List.getElem?_eq_getElem hiS)
  obtain ⟨va, vc, rfl⟩ := rw_out hrw
  have hR := List.getElem?_eq_getElem hiR
  rw [hrow] at hR
  have hs1 := hrw.some
  refine ⟨S[i].1, S[i].2.1, S[i].2.2, va, vc, List.getElem?_eq_getElem hiS, ?_, ?_, ?_, hrw, by omega⟩
  · exact hcell i _ hR 0 _ rfl
  · have := hcell i _ hR 1 _ rfl; rwa [← Nat.add_assoc] at this
  · have := hcell i _ hR 2 _ rfl; rwa [← Nat.add_assoc] at this

set_option maxRecDepth 100000 in
theorem fits2_any (op n : Int) (a : Option Addr) (m c : Nat) (w : World) (hm : m ≤ maxLen) :
    Calls Try.prog 24 #[.agg #[.int .i64 op, .int .i64 n, .slice a m c]] w fun e w' => e = .returned (.bool (decide ((m : Int) ≤ 2147483647))) ∧ Below w.heap.size w w' := by
  unfold maxLen at hm
  by_cases h : (m : Int) ≤ 2147483647
  · have hd : decide ((2147483647 : Int) < (m : Int)) = false := by simp; omega
    have hb : decide ((m : Int) ≤ 2147483647) = true := by simpa using h
    rw [hb]
    clear hb
    go_enter Try.func24, Try.ntmps24
    go_wp2_with fail
    go_ret
    exact ⟨rfl, (Below.refl _ _).alloc (Nat.le_refl _) _⟩
  · have hd : decide ((2147483647 : Int) < (m : Int)) = true := by simp; omega
    have hb : decide ((m : Int) ≤ 2147483647) = false := by simpa using h
    rw [hb]
    clear hb
    go_enter Try.func24, Try.ntmps24
    go_wp2_with fail
    go_ret
    exact ⟨rfl, (Below.refl _ _).alloc (Nat.le_refl _) _⟩

def FitLoop (n : Nat) (w : World) (k : Nat) (idx : Value) (wr : World) : Prop :=
  ∃ i : Nat, idx = .int .i64 (i : Int) ∧ i + k = n ∧ Below w.heap.size w wr

/-- a truth value that tells P -/
def SomeBool (P : Bool → Prop) (w : World) (e : Ending) (w' : World) : Prop := ∃ b, e = .returned (.bool b) ∧ P b ∧ Below w.heap.size w w'

set_option maxRecDepth 100000 in
set_option maxHeartbeats 1000000 in
theorem fits1_any (v : Value) (R : List (List Value)) (S : List RStp) (w : World) (hv : Rw 3 w v R) (hst : RStepsAt w R S) :
    Calls Try.prog 12 #[v] w (SomeBool (fun b => b = true → S.length ≤ 2147483647) w) := by
  obtain ⟨a, n, cap, rfl, _⟩ := id hv
  have hsm := hv.some
  obtain ⟨hla, hc, hm, hr⟩ := hsm
  have hnS : S.length = n := by rw [← hst.1, hla]
  have hmm : n ≤ maxLen := by omega
  have HV := Lib.hid hv
  have HST := Lib.hid hst
  have HNS := Lib.hid hnS
  unfold maxLen at hmm
  clear hv hst hnS hla
  by_cases h : (n : Int) ≤ 2147483647
  · have hd : decide ((2147483647 : Int) < (n : Int)) = false := by simp; omega
    go_enter Try.func12, Try.ntmps12
    go_wp2_with fail
    go_loopg [10] n (fun k idx wr => FitLoop n w k idx wr)
    case atStart => exact ⟨0, rfl, by omega, Below.refl _ _⟩
    case round =>
      obtain ⟨i, rfl, hik, hbel⟩ := hrel
      have HB := Lib.hid hbel
      have hsz := hbel.size
      clear hbel
      by_cases hi : i < n
      · cases gk with
        | zero => omega
        | succ k =>
          obtain ⟨b1, o1, rfl⟩ := hr (by omega)
          obtain ⟨op, sn, its, va, vc, hS, d0, d1, d2, hrw, hm9⟩ := step_cells HV.out HST.out i hi
          rw [← HB.out.cell (World.block_lt_of_cell? w _ d0)] at d0
          rw [← HB.out.cell (World.block_lt_of_cell? w _ d1)] at d1
          rw [← HB.out.cell (World.block_lt_of_cell? w _ d2)] at d2
          obtain ⟨L, hL⟩ : ∃ L, its.length = L := ⟨_, rfl⟩
          rw [hL] at d2 hm9
          have HC := Lib.hid (fun wx : World => fits2_any op sn va L vc wx hm9)
          have HBZ : Hid (Below wr.heap.size wr (wr.alloc (.cells #[.int .i64 op, .int .i64 sn, .slice va L vc] 32))) := Lib.hid ((Below.refl _ _).alloc (Nat.le_refl _) _)
          clear hr hS hrw hL hm9
          by_cases hf : (L : Int) ≤ 2147483647
          · have hb : decide ((L : Int) ≤ 2147483647) = true := by simpa using hf
            rw [hb] at HC
            clear hb hf
            go_wp2_with fail
            refine (HC.out _).mono ?_
            rintro e w2 ⟨rfl, hb2⟩
            have HB2 := Lib.hid hb2
            clear hb2
            go_wp2_with fail
            go_roundg k
            case measure => omega
            case rel => exact ⟨i + 1, by go_num, by omega, HB.out.trans ((HBZ.out.trans (HB2.out.mono (by simp))).mono hsz)⟩
          · have hb : decide ((L : Int) ≤ 2147483647) = false := by simpa using hf
            rw [hb] at HC
            clear hb hf
            go_wp2_with fail
            refine (HC.out _).mono ?_
            rintro e w2 ⟨rfl, hb2⟩
            have HB2 := Lib.hid hb2
            clear hb2
            go_wp2_with fail
            go_ret
            exact ⟨false, rfl, (fun h => by cases h), HB.out.trans ((HBZ.out.trans (HB2.out.mono (by simp))).mono hsz)⟩
      · obtain ⟨I, hI⟩ : ∃ I, I = n := ⟨_, rfl⟩
        obtain rfl : i = I := by omega
        subst hI
        have hdd : decide ((i : Int) < (i : Int)) = false := by simp
        go_wp2_with fail
        go_ret
        exact ⟨true, rfl, (fun _ => by rw [HNS.out]; omega), HB.out⟩
  · have hd : decide ((2147483647 : Int) < (n : Int)) = true := by simp; omega
    go_enter Try.func12, Try.ntmps12
    go_wp2_with fail
    go_ret
    exact ⟨false, rfl, (fun h => by cases h), Below.refl _ _⟩

/-- what avFew says of a script -/
def FewOk (S : List RStp) : Prop := S.length ≤ 30 ∧ ∀ s ∈ S, 1 ≤ s.1 ∧ s.1 ≤ 3 ∧ 0 ≤ s.2.1 ∧ 1 ≤ s.2.2.length ∧ s.2.2.length ≤ 30
def FewLoop (S : List RStp) (n : Nat) (w : World) (k : Nat) (s3 s4 idx : Value) (wr : World) : Prop :=
  ∃ (i t : Nat) (nw : Bool), s3 = .int .i64 (t : Int) ∧ s4 = .bool nw ∧ idx = .int .i64 (i : Int) ∧ i + k = n ∧ 1 ≤ t ∧ t ≤ i + 1 ∧ (∀ s ∈ S.take i, 1 ≤ s.1 ∧ s.1 ≤ 3 ∧ 0 ≤ s.2.1 ∧ 1 ≤ s.2.2.length ∧ s.2.2.length ≤ 30) ∧ Below w.heap.size w wr
theorem few_more {S : List RStp} {i L : Nat} {op frm : Int} {es : Lst} (h : ∀ s ∈ S.take i, 1 ≤ s.1 ∧ s.1 ≤ 3 ∧ 0 ≤ s.2.1 ∧ 1 ≤ s.2.2.length ∧ s.2.2.length ≤ 30) (ht : S.take (i + 1) = S.take i ++ [(op, frm, es)]) (hL : es.length = L) (hg : 1 ≤ op ∧ op ≤ 3 ∧ 0 ≤ frm ∧ 1 ≤ (L : Int) ∧ (L : Int) ≤ 30) :
    ∀ s ∈ S.take (i + 1), 1 ≤ s.1 ∧ s.1 ≤ 3 ∧ 0 ≤ s.2.1 ∧ 1 ≤ s.2.2.length ∧ s.2.2.length ≤ 30 := by
  intro s hs
  rw [ht] at hs
  rcases List.mem_append.1 hs with hs | hs
  · exact h s hs
  · rw [List.mem_singleton.1 hs]
    simp only [hL]
    omega

set_option maxRecDepth 100000 in
set_option maxHeartbeats 4000000 in
theorem avfew_any (v : Value) (R : List (List Value)) (S : List RStp) (w : World) (hv : Rw 3 w v R) (hst : RStepsAt w R S) (hn : S.length ≤ 2147483647) :
    Calls Try.prog 15 #[v] w (SomeBool (fun b => b = true → FewOk S) w) := by
  obtain ⟨a, n, cap, rfl, _⟩ := id hv
  have hsm := hv.some
  obtain ⟨hla, hc, hm, hr⟩ := hsm
  have hnS : S.length = n := by rw [← hst.1, hla]
  rw [hnS] at hn
  have HV := Lib.hid hv
  have HST := Lib.hid hst
  have HNS := Lib.hid hnS
  clear hv hst hnS hla hc hm
  go_enter Try.func15, Try.ntmps15
  go_wp2_with fail
  go_loopg [3, 4, 6, 9] n (fun k s3 s4 s6 idx wr => FewLoop S n w k s3 s4 idx wr)
  case atStart => exact ⟨0, 1, false, rfl, rfl, rfl, by omega, by omega, by omega, by simp, Below.refl _ _⟩
  case round =>
    obtain ⟨i, t, nw, rfl, rfl, rfl, hik, ht1, ht2, hall, hbel⟩ := hrel
    have HB := Lib.hid hbel
    have HALL := Lib.hid hall
    have hsz := hbel.size
    clear hbel hall
    by_cases hi : i < n
    · cases gk with
      | zero => omega
      | succ k =>
        obtain ⟨b1, o1, rfl⟩ := hr (by omega)
        obtain ⟨op, frm, es, va, vc, hS, d0, d1, d2, hrw, hm9⟩ := step_cells HV.out HST.out i hi
        rw [← HB.out.cell (World.block_lt_of_cell? w _ d0)] at d0
        rw [← HB.out.cell (World.block_lt_of_cell? w _ d1)] at d1
        rw [← HB.out.cell (World.block_lt_of_cell? w _ d2)] at d2
        have htk : S.take (i + 1) = S.take i ++ [(op, frm, es)] := by
          obtain ⟨hlt, hge⟩ := List.getElem?_eq_some_iff.1 hS
          rw [List.take_succ_eq_append_getElem hlt, hge]
        obtain ⟨L, hL⟩ : ∃ L, es.length = L := ⟨_, rfl⟩
        rw [hL] at d2 hm9
        have HTK := Lib.hid htk
        have HL := Lib.hid hL
        have HBZ : Hid (Below w.heap.size w (wr.alloc (.cells #[.int .i64 op, .int .i64 frm, .slice va L vc] 32))) := Lib.hid (HB.out.alloc hsz _)
        have kS := Blk.new wr 32 #[.int .i64 op, .int .i64 frm, .slice va L vc]
        have z0 := kS.cell 0 rfl
        have z1 := kS.cell 1 rfl
        have z2 := kS.cell 2 rfl
        clear hr hS hrw hL htk kS
        obtain ⟨B, hB⟩ : ∃ B : Bool, (op == 2) = B := ⟨_, rfl⟩
        have t4 : ((t : Int) == 0) = false := by rw [beq_eq_false_iff_ne]; omega
        have t5 : ¬ ((t : Int) = 0) := by omega
        have t6 : IntKind.i64.wrap ((t : Int) - 1) = (t : Int) - 1 := IntWalk.i64_in _ (by omega)
        by_cases h1 : op < 1
        · have d1 : decide (op < 1) = true := by simpa using h1
          clear h1
          cases nw <;> (go_wp2_with fail; go_ret; exact ⟨false, rfl, (fun h => by cases h), HBZ.out⟩)
        · have e1 : decide (op < 1) = false := by simpa using h1
          by_cases h2 : 3 < op
          · have e2 : decide (3 < op) = true := by simpa using h2
            clear h1 h2
            cases nw <;> (go_wp2_with fail; go_ret; exact ⟨false, rfl, (fun h => by cases h), HBZ.out⟩)
          · have e2 : decide (3 < op) = false := by simpa using h2
            by_cases h3 : frm < 0
            · have e3 : decide (frm < 0) = true := by simpa using h3
              clear h1 h2 h3
              cases nw <;> (go_wp2_with fail; go_ret; exact ⟨false, rfl, (fun h => by cases h), HBZ.out⟩)
            · have e3 : decide (frm < 0) = false := by simpa using h3
              by_cases h4 : (L : Int) < 1
              · have e4 : decide ((L : Int) < 1) = true := by simpa using h4
                clear h1 h2 h3 h4
                cases nw <;> (go_wp2_with fail; go_ret; exact ⟨false, rfl, (fun h => by cases h), HBZ.out⟩)
              · have e4 : decide ((L : Int) < 1) = false := by simpa using h4
                by_cases h5 : (30 : Int) < (L : Int)
                · have e5 : decide ((30 : Int) < (L : Int)) = true := by simpa using h5
                  clear h1 h2 h3 h4 h5
                  cases nw <;> (go_wp2_with fail; go_ret; exact ⟨false, rfl, (fun h => by cases h), HBZ.out⟩)
                · have e5 : decide ((30 : Int) < (L : Int)) = false := by simpa using h5
                  obtain ⟨M, hM⟩ : ∃ M, Int.tmod frm (t : Int) = M := ⟨_, rfl⟩
                  have hMr : 0 ≤ M ∧ M < (t : Int) := by
                    rw [← hM, Int.tmod_eq_emod_of_nonneg (by omega)]
                    exact ⟨Int.emod_nonneg _ t5, Int.emod_lt_of_pos _ (by omega)⟩
                  have hMw : IntKind.i64.wrap M = M := IntWalk.i64_in _ (by omega)
                  have HMR := Lib.hid hMr
                  clear hMr
                  obtain ⟨C, hC⟩ : ∃ C : Bool, (M != (t : Int) - 1) = C := ⟨_, rfl⟩
                  have hC2 : (M == (t : Int) - 1) = !C := by rw [← hC]; simp [bne]
                  cases nw <;> cases B <;> cases C
                  · by_cases h6 : op < 3
                    · have d6 : decide (op < 3) = true := by simpa using h6
                      have t7 : IntKind.i64.wrap ((t : Int) + 1) = (t : Int) + 1 := IntWalk.i64_in _ (by omega)
                      have HG : Hid (1 ≤ op ∧ op ≤ 3 ∧ 0 ≤ frm ∧ 1 ≤ (L : Int) ∧ (L : Int) ≤ 30) := Lib.hid (by omega)
                      clear h1 h2 h3 h4 h5 h6
                      go_wp2_with fail
                      go_roundg k
                      case measure => omega
                      case rel => exact ⟨i + 1, t + 1, _, by go_num, rfl, by go_num, by omega, by omega, by omega, few_more HALL.out HTK.out HL.out HG.out, HBZ.out⟩
                    · have d6 : decide (op < 3) = false := by simpa using h6
                      have HG : Hid (1 ≤ op ∧ op ≤ 3 ∧ 0 ≤ frm ∧ 1 ≤ (L : Int) ∧ (L : Int) ≤ 30) := Lib.hid (by omega)
                      clear h1 h2 h3 h4 h5 h6
                      go_wp2_with fail
                      go_roundg k
                      case measure => omega
                      case rel => exact ⟨i + 1, t, _, rfl, rfl, by go_num, by omega, by omega, by omega, few_more HALL.out HTK.out HL.out HG.out, HBZ.out⟩
                  · by_cases h6 : op < 3
                    · have d6 : decide (op < 3) = true := by simpa using h6
                      have t7 : IntKind.i64.wrap ((t : Int) + 1) = (t : Int) + 1 := IntWalk.i64_in _ (by omega)
                      have HG : Hid (1 ≤ op ∧ op ≤ 3 ∧ 0 ≤ frm ∧ 1 ≤ (L : Int) ∧ (L : Int) ≤ 30) := Lib.hid (by omega)
                      clear h1 h2 h3 h4 h5 h6
                      go_wp2_with fail
                      go_roundg k
                      case measure => omega
                      case rel => exact ⟨i + 1, t + 1, _, by go_num, rfl, by go_num, by omega, by omega, by omega, few_more HALL.out HTK.out HL.out HG.out, HBZ.out⟩
                    · have d6 : decide (op < 3) = false := by simpa using h6
                      have HG : Hid (1 ≤ op ∧ op ≤ 3 ∧ 0 ≤ frm ∧ 1 ≤ (L : Int) ∧ (L : Int) ≤ 30) := Lib.hid (by omega)
                      clear h1 h2 h3 h4 h5 h6
                      go_wp2_with fail
                      go_roundg k
                      case measure => omega
                      case rel => exact ⟨i + 1, t, _, rfl, rfl, by go_num, by omega, by omega, by omega, few_more HALL.out HTK.out HL.out HG.out, HBZ.out⟩
                  · by_cases h6 : op < 3
                    · have d6 : decide (op < 3) = true := by simpa using h6
                      have t7 : IntKind.i64.wrap ((t : Int) + 1) = (t : Int) + 1 := IntWalk.i64_in _ (by omega)
                      have HG : Hid (1 ≤ op ∧ op ≤ 3 ∧ 0 ≤ frm ∧ 1 ≤ (L : Int) ∧ (L : Int) ≤ 30) := Lib.hid (by omega)
                      clear h1 h2 h3 h4 h5 h6
                      go_wp2_with fail
                      go_roundg k
                      case measure => omega
                      case rel => exact ⟨i + 1, t + 1, _, by go_num, rfl, by go_num, by omega, by omega, by omega, few_more HALL.out HTK.out HL.out HG.out, HBZ.out⟩
                    · have d6 : decide (op < 3) = false := by simpa using h6
                      have HG : Hid (1 ≤ op ∧ op ≤ 3 ∧ 0 ≤ frm ∧ 1 ≤ (L : Int) ∧ (L : Int) ≤ 30) := Lib.hid (by omega)
                      clear h1 h2 h3 h4 h5 h6
                      go_wp2_with fail
                      go_roundg k
                      case measure => omega
                      case rel => exact ⟨i + 1, t, _, rfl, rfl, by go_num, by omega, by omega, by omega, few_more HALL.out HTK.out HL.out HG.out, HBZ.out⟩
                  · clear h1 h2 h3 h4 h5
                    go_wp2_with fail
                    go_ret
                    exact ⟨false, rfl, (fun h => by cases h), HBZ.out⟩
                  · by_cases h6 : op < 3
                    · have d6 : decide (op < 3) = true := by simpa using h6
                      have t7 : IntKind.i64.wrap ((t : Int) + 1) = (t : Int) + 1 := IntWalk.i64_in _ (by omega)
                      have HG : Hid (1 ≤ op ∧ op ≤ 3 ∧ 0 ≤ frm ∧ 1 ≤ (L : Int) ∧ (L : Int) ≤ 30) := Lib.hid (by omega)
                      clear h1 h2 h3 h4 h5 h6
                      go_wp2_with fail
                      go_roundg k
                      case measure => omega
                      case rel => exact ⟨i + 1, t + 1, _, by go_num, rfl, by go_num, by omega, by omega, by omega, few_more HALL.out HTK.out HL.out HG.out, HBZ.out⟩
                    · have d6 : decide (op < 3) = false := by simpa using h6
                      have HG : Hid (1 ≤ op ∧ op ≤ 3 ∧ 0 ≤ frm ∧ 1 ≤ (L : Int) ∧ (L : Int) ≤ 30) := Lib.hid (by omega)
                      clear h1 h2 h3 h4 h5 h6
                      go_wp2_with fail
                      go_roundg k
                      case measure => omega
                      case rel => exact ⟨i + 1, t, _, rfl, rfl, by go_num, by omega, by omega, by omega, few_more HALL.out HTK.out HL.out HG.out, HBZ.out⟩
                  · clear h1 h2 h3 h4 h5
                    go_wp2_with fail
                    go_ret
                    exact ⟨false, rfl, (fun h => by cases h), HBZ.out⟩
                  · by_cases h6 : op < 3
                    · have d6 : decide (op < 3) = true := by simpa using h6
                      have t7 : IntKind.i64.wrap ((t : Int) + 1) = (t : Int) + 1 := IntWalk.i64_in _ (by omega)
                      have HG : Hid (1 ≤ op ∧ op ≤ 3 ∧ 0 ≤ frm ∧ 1 ≤ (L : Int) ∧ (L : Int) ≤ 30) := Lib.hid (by omega)
                      clear h1 h2 h3 h4 h5 h6
                      go_wp2_with fail
                      go_roundg k
                      case measure => omega
                      case rel => exact ⟨i + 1, t + 1, _, by go_num, rfl, by go_num, by omega, by omega, by omega, few_more HALL.out HTK.out HL.out HG.out, HBZ.out⟩
                    · have d6 : decide (op < 3) = false := by simpa using h6
                      have HG : Hid (1 ≤ op ∧ op ≤ 3 ∧ 0 ≤ frm ∧ 1 ≤ (L : Int) ∧ (L : Int) ≤ 30) := Lib.hid (by omega)
                      clear h1 h2 h3 h4 h5 h6
                      go_wp2_with fail
                      go_roundg k
                      case measure => omega
                      case rel => exact ⟨i + 1, t, _, rfl, rfl, by go_num, by omega, by omega, by omega, few_more HALL.out HTK.out HL.out HG.out, HBZ.out⟩
                  · clear h1 h2 h3 h4 h5
                    go_wp2_with fail
                    go_ret
                    exact ⟨false, rfl, (fun h => by cases h), HBZ.out⟩
    · obtain rfl : i = n := by omega
      rw [List.take_of_length_le (by rw [HNS.out]; exact Nat.le_refl _)] at HALL
      by_cases h9 : (i : Int) ≤ 30
      · have d9 : decide ((i : Int) ≤ 30) = true := by simpa using h9
        have HI := Lib.hid h9
        clear h9
        go_wp2_with fail
        go_ret
        exact ⟨true, rfl, fun _ => ⟨by rw [HNS.out]; have := HI.out; omega, HALL.out⟩, HB.out⟩
      · have d9 : decide ((i : Int) ≤ 30) = false := by simpa using h9
        clear h9
        go_wp2_with fail
        go_ret
        exact ⟨false, rfl, (fun h => by cases h), HB.out⟩
end Go.Proofs.Ytnfkjcopeljknaa
