/- The law FnBAAndSparse: it returns true at every input. -/
import Derived.Test.YtjnefgmoobbniaaGreatBaSets3
namespace Go.Proofs.YtjnefgmoobbniaaGreat
set_option linter.unusedVariables false
open Go.RowKit Bam

theorem meth_sp_And (x : Value) (w : World) : (method 250 82 x "And").run Tryz.prog w = .ok (97, x) w := by kernel_rfl
theorem call_sp_And (args : Array Value) (w : World) : (callFunc 97 args).run Tryz.prog w = .ok (.enter 97 args) w := by kernel_rfl

theorem call_BAAnd (args : Array Value) (w : World) : (callFunc 9 args).run Tryz.prog w = .ok (.enter 9 args) w := by kernel_rfl
theorem call_baAny (args : Array Value) (w : World) : (callFunc 10 args).run Tryz.prog w = .ok (.enter 10 args) w := by kernel_rfl
theorem assert_sp_sp (v : Value) (w : World) : (Instr.typeAssert (.iface 82 v) 57 82 true).run Tryz.prog w = .ok (.tuple #[v, .bool true]) w := by kernel_rfl

set_option maxRecDepth 100000 in
theorem makes_and_ss (ps qs : Ps) (h1 : Ok ps) (h2 : Ok qs) (hn : ps.length ≤ 1000) (hm : qs.length ≤ 1000) : Makes 97 (.sp ps) (.sp qs) (.sp (andL ps qs)) := by
  intro w p F q G hp hq
  have ha := andsp_any p q F G ps qs w hp hq h1 h2 hn hm
  have HA := Lib.hid ha
  show Calls Tryz.prog _ #[.pointer (some ⟨p, 0, none⟩), .iface 82 (.pointer (some ⟨q, 0, none⟩))] w _
  have hta := assert_sp_sp
  clear ha hp hq h1 h2 hn hm
  go_enter Tryz.func97, Tryz.ntmps97
  go_wp2_with fail
  refine HA.out.mono ?_
  rintro e w' ⟨r, H, rfl, hs, hf, hb⟩
  have HS := Lib.hid hs
  have HF := Lib.hid hf
  have HB := Lib.hid hb
  clear hs hf hb
  go_wp2_with fail
  go_ret
  exact ⟨r, H, rfl, HS.out, HF.out, HB.out⟩

theorem tail_runs (op : Nat) (ps qs rs : Ps) (h1 : SOk ps) (h2 : SOk qs) (h3 : SOk rs) (hd : Does [.sp ps, .sp qs] ⟨op, 0, 1, 0, 0, false⟩ [.sp ps, .sp qs, .sp rs] ⟨false, 0, []⟩) :
    Runs [.sp ps, .sp qs] (tailS op) (tailA (nums rs) (nums ps) (nums qs)) [.sp ps, .sp qs, .sp rs] := by
  have he : decide (rs.length = 0) = decide ((nums rs).length = 0) := by
    rw [Bool.eq_iff_iff, decide_eq_true_iff, decide_eq_true_iff]
    constructor
    · intro h; rw [List.eq_nil_of_length_eq_zero h]; rfl
    · intro h; rw [nums_nil_of h3.ok h3.nz (List.eq_nil_of_length_eq_zero h)]; rfl
  have d3 := does_empty [.sp ps, .sp qs, .sp rs] ⟨15, 2, 0, 0, 0, false⟩ rs rfl rfl h3
  rw [he] at d3
  exact .cons (by simp) hd (.cons (by simp) (does_nums _ ⟨14, 2, 0, 0, 0, false⟩ rs rfl rfl h3) (.cons (by simp) (does_count _ ⟨10, 2, 0, 0, 0, false⟩ rs rfl rfl h3) (.cons (by simp) d3
    (.cons (by simp) (does_nums _ ⟨14, 0, 0, 0, 0, false⟩ ps rfl rfl h1) (.cons (by simp) (does_nums _ ⟨14, 1, 0, 0, 0, false⟩ qs rfl rfl h2) (.nil _))))))

theorem andL_len (p q : Ps) : (andL p q).length ≤ p.length := by
  fun_induction andL p q with
  | case1 => simp
  | case2 => simp
  | case3 i a p j b q h ih => exact ih
  | case4 i a p j b q h1 h2 ih => simp only [List.length_cons]; omega
  | case5 i a p j b q h1 h2 ih =>
    rw [List.length_append]
    split <;> simp <;> omega

theorem sok_made (ms : List Nat) (h : ms.length ≤ 40) : SOk (madeP ms ms.length) := (madeP_ok ms ms.length (Nat.le_refl _)).1.sok (by omega)
theorem sok_and {ps qs : Ps} (h1 : SOk ps) (h2 : SOk qs) : SOk (andL ps qs) := by
  obtain ⟨a, b, _⟩ := andL_ok ps qs h1.ok h2.ok
  refine ⟨a, b, Nat.le_trans (andL_len ps qs) h1.len, fun q hq => ?_⟩
  obtain ⟨y, hy, e⟩ := andL_keys ps qs q hq
  rw [← e]; exact h1.small y hy

theorem lens {v : Value} {w : World} {ns : List Nat} (h : Sl w v (u64s ns)) : ∃ a n cap, v = .slice a n cap ∧ (n : Int) ≤ 9223372036854775807 := by
  obtain ⟨a, n, cap, rfl, hl, hc, hm, hr⟩ := h
  exact ⟨a, n, cap, rfl, by unfold maxLen at hm; omega⟩

theorem andsparse_two (a b : List Nat) (va vb : Value) (w : World) (h1 : Sl w va (u64s a)) (h2 : Sl w vb (u64s b)) (ha : ∀ x ∈ a, x < 18446744073709551616) (hb : ∀ x ∈ b, x < 18446744073709551616) :
    Calls Tryz.prog 8 #[.int .i64 12, .bool false, .bool false, .agg #[.int .u16 0, .int .u16 0], va, vb, .func (.func 9) #[] #[], .func (.func 10) #[] #[]] w fun e w' => e = .returned (.bool true) ∧ Below w.heap.size w w' := by
  have l1 : (a.take 40).length ≤ 40 := by rw [List.length_take]; omega
  have l2 : (b.take 40).length ≤ 40 := by rw [List.length_take]; omega
  have s1 := sok_made (a.take 40) l1
  have s2 := sok_made (b.take 40) l2
  have n1 : (nums (madeP (a.take 40) (a.take 40).length)).length ≤ 3000 := by have := cnt_le (madeP (a.take 40) (a.take 40).length); have := (madeP_ok (a.take 40) _ (Nat.le_refl _)).1.len; omega
  have n2 : (nums (madeP (b.take 40) (b.take 40).length)).length ≤ 3000 := by have := cnt_le (madeP (b.take 40) (b.take 40).length); have := (madeP_ok (b.take 40) _ (Nat.le_refl _)).1.len; omega
  refine batwo_any 12 false false 0 0 va vb _ _ call_BAAnd call_baAny (madeL 0 (a.take 40)) (madeL 1 (b.take 40)) (madeA (a.take 40)) (madeA (b.take 40)) 0 0 (nums (madeP (a.take 40) (a.take 40).length)) (nums (madeP (b.take 40) (b.take 40).length)) (sAnd (nums (madeP (a.take 40) (a.take 40).length)) (nums (madeP (b.take 40) (b.take 40).length)))
    (.sp (madeP (a.take 40) (a.take 40).length)) (.sp (madeP (b.take 40) (b.take 40).length)) (.sp (andL (madeP (a.take 40) (a.take 40).length) (madeP (b.take 40) (b.take 40).length))) true w
    (fun w' hb' => made_c 0 va a 0 w' (h1.below rfl hb') ha (by decide)) (fun w' hb' => made_c 0 vb b 1 w' (h2.below rfl hb') hb (by decide))
    (runs_made [] 0 rfl (by decide) _ (by omega)) (runs_made [_] 1 rfl (by decide) _ (by omega)) (by rw [madeL_len]; omega) (by rw [madeL_len]; omega)
    (baany_c _ _ _ _ _ _) (fun _ => baand_c _ _ n1 n2) (fun _ => ?_) (by omega) (by omega) ?_ (by decide)
  · rw [← and_ok s1.ok s2.ok]
    exact tail_runs 12 _ _ _ s1 s2 (sok_and s1 s2) (does12_two _ _ _ _ (makes_and_ss _ _ s1.ok s2.ok (Nat.le_trans s1.len (by decide)) (Nat.le_trans s2.len (by decide))) _ rfl meth_sp_And call_sp_And [_, _] ⟨12, 0, 1, 0, 0, false⟩ rfl rfl rfl)
  · have := List.length_filter_le (sHas (nums (madeP (b.take 40) (b.take 40).length))) (nums (madeP (a.take 40) (a.take 40).length))
    unfold sAnd
    omega

set_option maxRecDepth 100000 in
theorem law_baandsparse (va vb : Value) (w : World) (h1 : IsInts .u64 w va) (h2 : IsInts .u64 w vb) :
    Calls Tryz.prog 4 #[va, vb] w fun e w' => e = .returned (.bool true) ∧ Below w.heap.size w w' := by
  obtain ⟨a, ha, hab⟩ := nats_of h1
  obtain ⟨b, hb, hbb⟩ := nats_of h2
  have hc := andsparse_two a b va vb w ha hb hab hbb
  have HC := Lib.hid hc
  obtain ⟨p, n, c, rfl, hn⟩ := lens ha
  obtain ⟨q, m, d, rfl, hm⟩ := lens hb
  clear h1 h2 ha hb hab hbb hc
  by_cases hz : (2147483647 : Int) < (n : Int)
  · go_enter Tryz.func4, Tryz.ntmps4
    go_wp2_with fail
    go_ret
    exact ⟨rfl, Below.refl _ _⟩
  · by_cases hz2 : (2147483647 : Int) < (m : Int)
    · go_enter Tryz.func4, Tryz.ntmps4
      go_wp2_with fail
      go_ret
      exact ⟨rfl, Below.refl _ _⟩
    · go_enter Tryz.func4, Tryz.ntmps4
      go_wp2_with fail
      refine HC.out.mono ?_
      rintro e w' ⟨rfl, hb⟩
      go_wp2_with fail
      go_ret
      exact ⟨rfl, hb⟩
end Go.Proofs.YtjnefgmoobbniaaGreat
