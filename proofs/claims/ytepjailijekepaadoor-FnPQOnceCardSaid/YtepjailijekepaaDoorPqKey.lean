/- Elements of a priority queue as values, and as keys of a map. -/
import Derived.Test.YtepjailijekepaaDoorProg
import Derived.Test.YtepjailijekepaaDoorVMap
import Derived.Test.YtepjailijekepaaDoorSl
import Derived.Test.YtepjailijekepaaDoorPqMath
import Derived.WalkKit
import Derived.KernelRfl
import Derived.Outline
import Derived.Deep.LoopGhost
namespace Go.Proofs.YtepjailijekepaaDoor
set_option linter.unusedVariables false
open Go.RowKit
open Pqm

/-- an element as an interface value -/
def itv (x : It) : Value := .iface 55 (.agg #[.int .i64 x.1, .int .i64 x.2])
def itvs (l : List It) : List Value := l.map itv
theorem itvs_len (l : List It) : (itvs l).length = l.length := by simp [itvs]
theorem itvs_at (l : List It) (i : Nat) (h : i < l.length) : (itvs l)[i]? = some (itv (l.getD i dI)) := by
  simp [itvs, h]
theorem itvs_app (l k : List It) : itvs (l ++ k) = itvs l ++ itvs k := by simp [itvs]
theorem itvs_set (l : List It) (i : Nat) (x : It) : itvs (l.set i x) = (itvs l).set i (itv x) := by simp [itvs, List.map_set]
theorem itvs_take (l : List It) (i : Nat) : itvs (l.take i) = (itvs l).take i := by simp [itvs, List.map_take]
theorem itvs_cells (l : List It) : ∀ u ∈ itvs l, u.oneCell' = true := by
  intro u hu
  obtain ⟨n, _, rfl⟩ := List.mem_map.1 hu
  rfl

theorem comp_pqi : (Tryd.prog.info? 55).map (fun i => i.comparable) = some true := by kernel_rfl
theorem stood_pqi : Tryd.prog.stoodInHeld 55 = false := by kernel_rfl
theorem stood_pqit : Tryd.prog.stoodInHeld 45 = false := by kernel_rfl
theorem sz_pqit : (Tryd.prog.info? 45).map (fun i => (i.size)) = some 2 := by kernel_rfl

theorem eqf_pqit (d : Nat) (a b : It) (w : World) : (Op.equalIn (d + 1 + 1) 45 (.agg #[.int .i64 a.1, .int .i64 a.2]) (.agg #[.int .i64 b.1, .int .i64 b.2])).run Tryd.prog w = .ok (decide (a = b)) w := by
  have hd : decide (a = b) = (decide (a.1 = b.1) && decide (a.2 = b.2)) := by
    rw [Bool.eq_iff_iff]; simp [Prod.ext_iff]
  have hf : Tryd.prog.fieldsOf 45 = #[⟨"Key", 3, 0, false, "", "", 0⟩, ⟨"Tag", 3, 1, false, "", "", 8⟩] := by
    unfold Program.fieldsOf
    rw [Tryd.underlying45]
  rw [run_equalIn_struct w (d + 1) _ _ _ (by rw [hf, Tryd.underlying45]) stood_pqit, hf, hd]
  by_cases h1 : a.1 = b.1
  · by_cases h2 : a.2 = b.2
    · simp [Op.eqFields, part, isAgg, run_underlying Tryd.underlying3, run_equalIn_int _ _ _ _ _ _ _ Tryd.underlying3, h1, h2]
    · have h2' : (a.2 == b.2) = false := by simpa using h2
      simp [Op.eqFields, part, isAgg, run_underlying Tryd.underlying3, run_equalIn_int _ _ _ _ _ _ _ Tryd.underlying3, h1, h2]
  · simp [Op.eqFields, part, isAgg, run_underlying Tryd.underlying3, run_equalIn_int _ _ _ _ _ _ _ Tryd.underlying3, h1]
theorem run_part_pqi (a : It) (w : World) : (part 45 #[.int .i64 a.1, .int .i64 a.2] 0).run Tryd.prog w = .ok (.agg #[.int .i64 a.1, .int .i64 a.2]) w := by
  have hs := sz_pqit
  cases hj : Tryd.prog.info? 45 with
  | none => rw [hj] at hs; cases hs
  | some j =>
    rw [hj] at hs
    simp at hs
    simp [part, isAgg, run_underlying Tryd.underlying45, sizeOf, typeInfo, hj, hs]
theorem eqf_pqi (d : Nat) (a b : It) (w : World) : (Op.equalIn (d + 1 + 1 + 1) 55 (.agg #[.int .i64 a.1, .int .i64 a.2]) (.agg #[.int .i64 b.1, .int .i64 b.2])).run Tryd.prog w = .ok (decide (a = b)) w := by
  have hf : Tryd.prog.fieldsOf 55 = #[⟨"item", 45, 0, false, "", "given.example/pub-lumberyard/impl", 0⟩] := by
    unfold Program.fieldsOf
    rw [Tryd.underlying55]
  rw [run_equalIn_struct w (d + 1 + 1) _ _ _ (by rw [hf, Tryd.underlying55]) stood_pqi, hf]
  by_cases h : a = b
  · simp [Op.eqFields, run_part_pqi, eqf_pqit, h]
  · simp [Op.eqFields, run_part_pqi, eqf_pqit, h]
theorem equal_pqi (a b : It) (w : World) : (Op.equal 64 (itv a) (itv b)).run Tryd.prog w = .ok (decide (a = b)) w := by
  have hc := comp_pqi
  cases hi : Tryd.prog.info? 55 with
  | none => rw [hi] at hc; cases hc
  | some i =>
    rw [hi] at hc
    simp at hc
    have h : ∀ d : Nat, (Op.equalIn (d + 1 + 1 + 1 + 1) 64 (itv a) (itv b)).run Tryd.prog w = .ok (decide (a = b)) w := fun d => by
      have he := eqf_pqi d a b w
      rw [Op.equalIn.eq_2]
      simp only [itv, run_underlying Tryd.underlying64, Sem.run_bind, Result.andThen_ok]
      simp [typeInfo, hi, hc, he]
    exact h 9996
theorem ck_pqi (a : It) (em : Bool) (w : World) : (Instr.checkKey em 10000 64 (itv a)).run Tryd.prog w = .ok () w := by
  have hc := comp_pqi
  cases hi : Tryd.prog.info? 55 with
  | none => rw [hi] at hc; cases hc
  | some i =>
    rw [hi] at hc
    simp at hc
    have h0 : ∀ (d : Nat) (x : Value) (w : World), (Instr.checkKey em (d + 1) 3 x).run Tryd.prog w = .ok () w := fun d x w => by
      simp [Instr.checkKey, run_underlying Tryd.underlying3]
    have h1 : ∀ (d : Nat) (w : World), (Instr.checkKey em (d + 1 + 1) 45 (.agg #[.int .i64 a.1, .int .i64 a.2])).run Tryd.prog w = .ok () w := fun d w => by
      rw [Instr.checkKey.eq_2]
      simp [run_underlying Tryd.underlying45, ← Array.forIn_toList, List.forIn_cons, part, isAgg, run_underlying Tryd.underlying3, h0]
    have h2 : ∀ (d : Nat) (w : World), (Instr.checkKey em (d + 1 + 1 + 1) 55 (.agg #[.int .i64 a.1, .int .i64 a.2])).run Tryd.prog w = .ok () w := fun d w => by
      rw [Instr.checkKey.eq_2]
      simp [run_underlying Tryd.underlying55, ← Array.forIn_toList, List.forIn_cons, run_part_pqi, h1]
    have h3 : ∀ (d : Nat), (Instr.checkKey em (d + 1 + 1 + 1 + 1) 64 (itv a)).run Tryd.prog w = .ok () w := fun d => by
      rw [Instr.checkKey.eq_2]
      simp [itv, run_underlying Tryd.underlying64, typeInfo, hi, hc, h2]
    exact h3 9996

theorem bits_pqi (a : It) : Instr.sameBits 10000 (itv a) (itv a) = true := by
  show Instr.sameBits (9998 + 1 + 1) _ _ = true
  simp [itv, Instr.sameBits]

/-- elements as keys -/
theorem KPQ : KeyFn Tryd.prog 64 itv := by
  refine ⟨fun a b h => by
    simp [itv] at h
    exact Prod.ext h.1 h.2, fun w em a => ck_pqi a em w, fun w a es hes => ?_, fun w a => ?_⟩
  · have asking : ∀ (es : List MapEntry) (i : Nat), (∀ e ∈ es, ∃ b : It, e.key = itv b) →
        ((Instr.findAsking 64 (itv a) es i).run Tryd.prog w = .ok none w ∧ ∀ e ∈ es, e.key ≠ itv a) ∨
          ∃ j e, (Instr.findAsking 64 (itv a) es i).run Tryd.prog w = .ok (some (i + j, e.val)) w ∧ es[j]? = some e ∧ e.key = itv a := by
      intro es
      induction es with
      | nil => intro i _; exact .inl ⟨by simp [Instr.findAsking], by simp⟩
      | cons e r ih =>
        intro i hes
        obtain ⟨b, hb⟩ := hes e (by simp)
        have heq := equal_pqi a b w
        by_cases hab : a = b
        · subst hab
          refine .inr ⟨0, e, ?_, rfl, hb⟩
          simp [Instr.findAsking, hb, heq]
        · have hf : decide (a = b) = false := by simpa using hab
          rw [hf] at heq
          rcases ih (i + 1) (fun e he => hes e (List.mem_cons_of_mem _ he)) with ⟨h1, h2⟩ | ⟨j, e', h1, h2, h3⟩
          · refine .inl ⟨by simp [Instr.findAsking, hb, heq, h1], fun x hx => ?_⟩
            rcases List.mem_cons.1 hx with rfl | hx
            · rw [hb]
              intro e
              simp [itv] at e
              exact hab (Prod.ext e.1.symm e.2.symm)
            · exact h2 x hx
          · refine .inr ⟨j + 1, e', ?_, by simpa using h2, h3⟩
            simp only [Instr.findAsking, hb, Sem.run_bind, heq, Result.andThen, h1, Bool.false_eq_true, if_false]
            rw [show i + 1 + j = i + (j + 1) by omega]
    cases es with
    | nil => exact .inl ⟨by simp [Instr.findKey, run_underlying Tryd.underlying64, Instr.findNow], by simp⟩
    | cons e r =>
      obtain ⟨b, hb⟩ := hes e (by simp)
      have hrun : (Instr.findKey 64 (itv a) (e :: r)).run Tryd.prog w = (Instr.findAsking 64 (itv a) (e :: r) 0).run Tryd.prog w := by
        simp [Instr.findKey, run_underlying Tryd.underlying64, Instr.findNow, Instr.sameNow, itv]
      rw [hrun]
      simpa using asking (e :: r) 0 hes
  · simp [Instr.keyThatStays, bits_pqi]
end Go.Proofs.YtepjailijekepaaDoor
