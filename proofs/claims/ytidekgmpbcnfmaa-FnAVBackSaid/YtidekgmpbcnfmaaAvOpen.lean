/- The opener of the scripts of an AVL tree, and the walks of the law's bounds. -/
import Derived.Test.YtidekgmpbcnfmaaAvAll
import Derived.Test.YtidekgmpbcnfmaaOpenRow
import Derived.BigQuiet
import Derived.Deep.QuietTactic
namespace Go.Proofs.Ytidekgmpbcnfmaa
set_option linter.unusedVariables false
open Go.RowKit Avm Go.ChangeShapes Go.WideShapes Go.Deep

abbrev RStp := Int × Int × Lst
def RStepsAt (w : World) (R : List (List Value)) (S : List RStp) : Prop := R.length = S.length ∧ ∀ (i : Nat) (row : List Value) (s : RStp), R[i]? = some row → S[i]? = some s → ∃ v, row = [.int .i64 s.1, .int .i64 s.2.1, v] ∧ Rw 2 w v (aes s.2.2)
theorem Rw.some {S : Nat} {w : World} {a : Option Addr} {n cap : Nat} {rows : List (List Value)} (h : Rw S w (.slice a n cap) rows) : rows.length = n ∧ n ≤ cap ∧ cap ≤ maxLen ∧ (0 < n → ∃ b off, a = some ⟨b, off, none⟩) := by
  obtain ⟨a', n', c', e, hn, hc, hm, hr⟩ := h
  injection e with e1 e2 e3
  subst e1; subst e2; subst e3
  exact ⟨hn, hc, hm, fun h0 => by obtain ⟨b, off, e, _⟩ := hr h0; exact ⟨b, off, e⟩⟩
theorem rw_out {w : World} {v : Value} {l : Lst} (h : Rw 2 w v (aes l)) : ∃ a c, v = .slice a l.length c := by
  obtain ⟨a, n, c, rfl, hn, _⟩ := h
  rw [aes_len] at hn
  exact ⟨a, c, by rw [hn]⟩

section
variable {H : Type} {enc : TypeId × Value → H} {W : World}
theorem aes_of : ∀ (rows : List (List Value)), (∀ r ∈ rows, ∃ x : Int × Int, r = [.int .i64 x.1, .int .i64 x.2]) → ∃ l, rows = aes l
  | [], _ => ⟨[], rfl⟩
  | r :: rs, h => by
    obtain ⟨x, rfl⟩ := h r (by simp)
    obtain ⟨l, rfl⟩ := aes_of rs (fun r hr => h r (by simp [hr]))
    exact ⟨x :: l, rfl⟩
theorem cellsit : Try.prog.cellsOf 25 = 2 := by kernel_rfl
theorem cellsst : Try.prog.cellsOf 32 = 3 := by kernel_rfl
theorem oneit : oneCellFields Try.prog (Try.prog.fieldsOf 25) = true := by kernel_rfl
theorem onest : oneCellFields Try.prog (Try.prog.fieldsOf 32) = true := by kernel_rfl
set_option maxRecDepth 100000 in
theorem row_it {row : List Value} (hl : row.length = 2) (h : Reads enc Try.prog W 25 row) : ∃ x : Int × Int, row = [.int .i64 x.1, .int .i64 x.2] := by
  have ho := oneit
  unfold Program.fieldsOf at ho
  rw [Try.underlying25] at ho
  obtain ⟨u0, h0, r0⟩ := h.field Try.underlying25 ho hl 0 _ rfl
  obtain ⟨u1, h1, r1⟩ := h.field Try.underlying25 ho hl 1 _ rfl
  obtain ⟨a, rfl, _⟩ := r0.int Try.underlying3
  obtain ⟨b, rfl, _⟩ := r1.int Try.underlying3
  match row, hl with
  | [x, y], _ =>
    simp at h0 h1
    subst h0; subst h1
    exact ⟨(a, b), rfl⟩
theorem items_of {rows : List (List Value)} (hl : ∀ r ∈ rows, r.length = 2) (h : ∀ r ∈ rows, Reads enc Try.prog W 25 r) : ∃ l, rows = aes l :=
  aes_of rows fun r hr => row_it (hl r hr) (h r hr)
set_option maxRecDepth 100000 in
theorem row_st {row : List Value} (hl : row.length = 3) (h : Reads enc Try.prog W 32 row) : ∃ (s : RStp) (v : Value), row = [.int .i64 s.1, .int .i64 s.2.1, v] ∧ Rw 2 W v (aes s.2.2) := by
  have ho := onest
  unfold Program.fieldsOf at ho
  rw [Try.underlying32] at ho
  obtain ⟨u0, h0, r0⟩ := h.field Try.underlying32 ho hl 0 _ rfl
  obtain ⟨u1, h1, r1⟩ := h.field Try.underlying32 ho hl 1 _ rfl
  obtain ⟨u2, h2, r2⟩ := h.field Try.underlying32 ho hl 2 _ rfl
  obtain ⟨a, rfl, _⟩ := r0.int Try.underlying3
  obtain ⟨b, rfl, _⟩ := r1.int Try.underlying3
  obtain ⟨rows, hrw, hrl, hrr⟩ := r2.rows Try.underlying22 cellsit (by decide)
  obtain ⟨l, rfl⟩ := items_of hrl hrr
  match row, hl with
  | [x, y, z], _ =>
    simp at h0 h1 h2
    subst h0; subst h1; subst h2
    exact ⟨(a, b, l), _, rfl, hrw⟩
theorem steps_of (w : World) : ∀ (rows : List (List Value)), (∀ r ∈ rows, ∃ (s : RStp) (v : Value), r = [.int .i64 s.1, .int .i64 s.2.1, v] ∧ Rw 2 w v (aes s.2.2)) → ∃ S, RStepsAt w rows S
  | [], _ => ⟨[], rfl, fun i row s h => by simp at h⟩
  | r :: rs, h => by
    obtain ⟨s, v, h1, h2⟩ := h r (by simp)
    obtain ⟨S, h3, h4⟩ := steps_of w rs (fun r hr => h r (by simp [hr]))
    refine ⟨s :: S, by simp [h3], fun i row s' hi hs => ?_⟩
    cases i with
    | zero =>
      simp at hi hs
      subst hi; subst hs
      exact ⟨v, h1, h2⟩
    | succ i => exact h4 i row s' (by simpa using hi) (by simpa using hs)
/-- any steps -/
def AnyAv (w : World) (v : Value) : Prop := ∃ R S, Rw 3 w v R ∧ RStepsAt w R S
def AnyIts (w : World) (v : Value) : Prop := ∃ l, Rw 2 w v (aes l)
set_option maxRecDepth 100000 in
theorem open_steps {v : Value} {d : DataW H} {p : List MemPlace} {r : Reach} {b0 : Nat} (hv : Value.okWide Try.prog W r b0 33 v) (h : DataW.Trod enc Try.prog W 0 (fun _ => true) true 33 v d p) : AnyAv W v := by
  obtain ⟨rows, h1, h2, h3⟩ := open_rows Try.underlying33 cellsst (by decide) hv h
  obtain ⟨S, hS⟩ := steps_of W rows (fun r hr => row_st (h2 r hr) (h3 r hr))
  exact ⟨rows, S, h1, hS⟩
set_option maxRecDepth 100000 in
theorem open_its {v : Value} {d : DataW H} {p : List MemPlace} {r : Reach} {b0 : Nat} (hv : Value.okWide Try.prog W r b0 22 v) (h : DataW.Trod enc Try.prog W 0 (fun _ => true) true 22 v d p) : AnyIts W v := by
  obtain ⟨rows, h1, h2, h3⟩ := open_rows Try.underlying22 cellsit (by decide) hv h
  obtain ⟨l, rfl⟩ := items_of h2 h3
  exact ⟨l, h1⟩
end

theorem RStepsAt.below {w w' : World} {R : List (List Value)} {S : List RStp} (h : RStepsAt w R S) (hb : Below w.heap.size w w') : RStepsAt w' R S :=
  ⟨h.1, fun i row s hi hs => by obtain ⟨v, h1, h2⟩ := h.2 i row s hi hs; exact ⟨v, h1, h2.below rfl hb⟩⟩

/-- a step in its row -/
theorem step_cells {w : World} {b off n cap : Nat} {R : List (List Value)} {S : List RStp} (h : Rw 3 w (.slice (some ⟨b, off, none⟩) n cap) R) (hs : RStepsAt w R S) (i : Nat) (hi : i < n) :
    ∃ (op sn : Int) (its : Lst) (a : Option Addr) (c : Nat), S[i]? = some (op, sn, its) ∧ w.cell? ⟨b, off + i * 3, none⟩ = some (.int .i64 op) ∧ w.cell? ⟨b, off + i * 3 + 1, none⟩ = some (.int .i64 sn) ∧ w.cell? ⟨b, off + i * 3 + 2, none⟩ = some (.slice a its.length c) ∧ Rw 2 w (.slice a its.length c) (aes its) ∧ its.length ≤ maxLen := by
  obtain ⟨a, n', c', e, hn, hc, hm, hr⟩ := h
  injection e with e1 e2 e3
  subst e2
  obtain ⟨b', off', e4, hcell⟩ := hr (by omega)
  rw [← e1] at e4
  injection e4 with e4
  injection e4 with e4 e5
  subst e4; subst e5
  have hiR : i < R.length := by omega
  have hiS : i < S.length := by rw [← hs.1]; exact hiR
  obtain ⟨v, hrow, hrw⟩ := hs.2 i _ _ (List.getElem?_eq_getElem hiR) (List.getElem?_eq_getElem hiS)
  obtain ⟨va, vc, rfl⟩ := rw_out hrw
  have hR := List.getElem?_eq_getElem hiR
  rw [hrow] at hR
  have hs1 := hrw.some
  refine ⟨S[i].1, S[i].2.1, S[i].2.2, va, vc, List.getElem?_eq_getElem hiS, ?_, ?_, ?_, hrw, by omega⟩
  · exact hcell i _ hR 0 _ rfl
  · have := hcell i _ hR 1 _ rfl; rwa [← Nat.add_assoc] at this
  · have := hcell i _ hR 2 _ rfl; rwa [← Nat.add_assoc] at this

def FitLoop (n : Nat) (w : World) (k : Nat) (idx : Value) (wr : World) : Prop :=
  ∃ i : Nat, idx = .int .i64 (i : Int) ∧ i + k = n ∧ Below w.heap.size w wr

/-- a truth value that tells P -/
def SomeBool (P : Bool → Prop) (w : World) (e : Ending) (w' : World) : Prop := ∃ b, e = .returned (.bool b) ∧ P b ∧ Below w.heap.size w w'

/-- what avFew says of a script -/
def FewOk (S : List RStp) : Prop := S.length ≤ 30 ∧ ∀ s ∈ S, 1 ≤ s.1 ∧ s.1 ≤ 3 ∧ 0 ≤ s.2.1 ∧ 1 ≤ s.2.2.length ∧ s.2.2.length ≤ 30
def FewLoop (S : List RStp) (n : Nat) (w : World) (k : Nat) (s3 s4 idx : Value) (wr : World) : Prop :=
  ∃ (i t : Nat) (nw : Bool), s3 = .int .i64 (t : Int) ∧ s4 = .bool nw ∧ idx = .int .i64 (i : Int) ∧ i + k = n ∧ 1 ≤ t ∧ t ≤ i + 1 ∧ (∀ s ∈ S.take i, 1 ≤ s.1 ∧ s.1 ≤ 3 ∧ 0 ≤ s.2.1 ∧ 1 ≤ s.2.2.length ∧ s.2.2.length ≤ 30) ∧ Below w.heap.size w wr
theorem few_more {S : List RStp} {i L : Nat} {op frm : Int} {es : Lst} (h : ∀ s ∈ S.take i, 1 ≤ s.1 ∧ s.1 ≤ 3 ∧ 0 ≤ s.2.1 ∧ 1 ≤ s.2.2.length ∧ s.2.2.length ≤ 30) (ht : S.take (i + 1) = S.take i ++ [(op, frm, es)]) (hL : es.length = L) (hg : 1 ≤ op ∧ op ≤ 3 ∧ 0 ≤ frm ∧ 1 ≤ (L : Int) ∧ (L : Int) ≤ 30) :
    ∀ s ∈ S.take (i + 1), 1 ≤ s.1 ∧ s.1 ≤ 3 ∧ 0 ≤ s.2.1 ∧ 1 ≤ s.2.2.length ∧ s.2.2.length ≤ 30 := by
  intro s hs
  rw [ht] at hs
  rcases List.mem_append.1 hs with hs | hs
  · exact h s hs
  · rw [List.mem_singleton.1 hs]
    simp only [hL]
    omega

end Go.Proofs.Ytidekgmpbcnfmaa
