/- The law FnBAAndSparse: it returns true at every input. -/
import Derived.Test.YtgifbdjifmoafaaGreatBaSets3
namespace Go.Proofs.YtgifbdjifmoafaaGreat
set_option linter.unusedVariables false
open Go.RowKit Bam

theorem meth_sp_And (x : Value) (w : World) : (method 267 99 x "And").run Tryz.prog w = .ok (110, x) w := by kernel_rfl
theorem call_sp_And (args : Array Value) (w : World) : (callFunc 110 args).run Tryz.prog w = .ok (.enter 110 args) w := by kernel_rfl

theorem assert_sp_sp (v : Value) (w : World) : (Instr.typeAssert (.iface 99 v) 71 99 true).run Tryz.prog w = .ok (.tuple #[v, .bool true]) w := by kernel_rfl

set_option maxRecDepth 100000 in
theorem makes_and_ss (ps qs : Ps) (h1 : Ok ps) (h2 : Ok qs) (hn : ps.length ≤ 1000) (hm : qs.length ≤ 1000) : Makes 110 (.sp ps) (.sp qs) (.sp (andL ps qs)) := by
  intro w p F q G hp hq
  have ha := andsp_any p q F G ps qs w hp hq h1 h2 hn hm
  have HA := Lib.hid ha
  show Calls Tryz.prog _ #[.pointer (some ⟨p, 0, none⟩), .iface 99 (.pointer (some ⟨q, 0, none⟩))] w _
  have hta := assert_sp_sp
  clear ha hp hq h1 h2 hn hm
  go_enter Tryz.func110, Tryz.ntmps110
  go_wp2_with fail
  refine HA.out.mono ?_
  rintro e w' ⟨r, H, rfl, hs, hf, hb⟩
  have HS := Lib.hid hs
  have HF := Lib.hid hf
  have HB := Lib.hid hb
  clear hs hf hb
  go_wp2_with fail
  go_ret
  exact ⟨r, H, rfl, HS.out, HF.out, HB.out⟩

theorem tail_runs (op : Nat) (ps qs rs : Ps) (h1 : SOk ps) (h2 : SOk qs) (h3 : SOk rs) (hd : Does [.sp ps, .sp qs] ⟨op, 0, 1, 0, 0, false⟩ [.sp ps, .sp qs, .sp rs] ⟨false, 0, []⟩) :
    Runs [.sp ps, .sp qs] (tailS op) (tailA (nums rs) (nums ps) (nums qs)) [.sp ps, .sp qs, .sp rs] := by
  have he : decide (rs.length = 0) = decide ((nums rs).length = 0) := by
    rw [Bool.eq_iff_iff, decide_eq_true_iff, decide_eq_true_iff]
    constructor
    · intro h; rw [List.eq_nil_of_length_eq_zero h]; rfl
    · intro h; rw [nums_nil_of h3.ok h3.nz (List.eq_nil_of_length_eq_zero h)]; rfl
  have d3 := does_empty [.sp ps, .sp qs, .sp rs] ⟨15, 2, 0, 0, 0, false⟩ rs rfl rfl h3
  rw [he] at d3
  exact .cons (by simp) hd (.cons (by simp) (does_nums _ ⟨14, 2, 0, 0, 0, false⟩ rs rfl rfl h3) (.cons (by simp) (does_count _ ⟨10, 2, 0, 0, 0, false⟩ rs rfl rfl h3) (.cons (by simp) d3
    (.cons (by simp) (does_nums _ ⟨14, 0, 0, 0, 0, false⟩ ps rfl rfl h1) (.cons (by simp) (does_nums _ ⟨14, 1, 0, 0, 0, false⟩ qs rfl rfl h2) (.nil _))))))

theorem andL_len (p q : Ps) : (andL p q).length ≤ p.length := by
  fun_induction andL p q with
  | case1 => simp
  | case2 => simp
  | case3 i a p j b q h ih => exact ih
  | case4 i a p j b q h1 h2 ih => simp only [List.length_cons]; omega
  | case5 i a p j b q h1 h2 ih =>
    rw [List.length_append]
    split <;> simp <;> omega

theorem sok_made (ms : List Nat) (h : ms.length ≤ 40) : SOk (madeP ms ms.length) := (madeP_ok ms ms.length (Nat.le_refl _)).1.sok (by omega)
theorem sok_and {ps qs : Ps} (h1 : SOk ps) (h2 : SOk qs) : SOk (andL ps qs) := by
  obtain ⟨a, b, _⟩ := andL_ok ps qs h1.ok h2.ok
  refine ⟨a, b, Nat.le_trans (andL_len ps qs) h1.len, fun q hq => ?_⟩
  obtain ⟨y, hy, e⟩ := andL_keys ps qs q hq
  rw [← e]; exact h1.small y hy

theorem lens {v : Value} {w : World} {ns : List Nat} (h : Sl w v (u64s ns)) : ∃ a n cap, v = .slice a n cap ∧ (n : Int) ≤ 9223372036854775807 := by
  obtain ⟨a, n, cap, rfl, hl, hc, hm, hr⟩ := h
  exact ⟨a, n, cap, rfl, by unfold maxLen at hm; omega⟩

end Go.Proofs.YtgifbdjifmoafaaGreat
