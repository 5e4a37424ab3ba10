/- The law FnBAEqualSparse: it returns true at every input. -/
import Derived.Test.YtjnefgmoobbniaaBaAskLaw
import Derived.Test.YtjnefgmoobbniaaBaEqSp
namespace Go.Proofs.Ytjnefgmoobbniaa
set_option linter.unusedVariables false
open Go.RowKit Bam

theorem meth_sp_Equals (x : Value) (w : World) : (method 254 86 x "Equals").run Try.prog w = .ok (100, x) w := by kernel_rfl
theorem call_sp_Equals (args : Array Value) (w : World) : (callFunc 100 args).run Try.prog w = .ok (.enter 100 args) w := by kernel_rfl
theorem call_BASame (args : Array Value) (w : World) : (callFunc 9 args).run Try.prog w = .ok (.enter 9 args) w := by kernel_rfl
theorem call_baAsMany (args : Array Value) (w : World) : (callFunc 11 args).run Try.prog w = .ok (.enter 11 args) w := by kernel_rfl

theorem asks_eq_ss (ps qs : Ps) (h1 : SOk ps) (h2 : SOk qs) (hl : (nums ps).length = (nums qs).length) (h0 : 0 < (nums ps).length) : Asks 100 (.sp ps) (.sp qs) (decide (nums ps = nums qs)) := by
  intro w p F q G hp hq
  have n1 : 0 < ps.length := by
    rcases Nat.eq_zero_or_pos ps.length with e | e
    · rw [List.eq_nil_of_length_eq_zero e] at h0; simp [nums] at h0
    · exact e
  have n2 : 0 < qs.length := by
    rcases Nat.eq_zero_or_pos qs.length with e | e
    · rw [hl, List.eq_nil_of_length_eq_zero e] at h0; simp [nums] at h0
    · exact e
  refine (eqsp_any p q F G ps qs w hp hq h1.ok h2.ok h2.nz (Nat.le_trans h1.len (by decide)) (Nat.le_trans h2.len (by decide)) n1 n2 h2.small).mono fun e w' ⟨b, he, hb, hbl⟩ => ⟨?_, hbl⟩
  rw [he]
  congr 2
  rw [Bool.eq_iff_iff, hb, prefix_iff h1.ok h2.ok h1.nz h2.nz hl, decide_eq_true_iff]

theorem basame_c (S1 S2 : List Nat) (h1 : S1.length ≤ 100000) (h2 : S2.length ≤ 100000) : AskC 9 S1 S2 (decide (S1 = S2)) := by
  intro w s1 s2 hs1 hs2
  exact (same_any s1 s2 S1 S2 w hs1 hs2 h1 h2).mono fun e w' ⟨h, nq, hw⟩ => ⟨h, hw ▸ below_drewN (Below.refl _ _) nq⟩

set_option maxRecDepth 100000 in
theorem baasmany_c (x y : Bool) (wd1 wd2 : Nat) (S1 S2 : List Nat) (h1 : S1.length ≤ 100000) (h2 : S2.length ≤ 100000) : FitsC 11 x y wd1 wd2 S1 S2 (decide (S1.length = S2.length ∧ 0 < S1.length)) := by
  intro w s1 s2 k1 k2
  obtain ⟨a, c, rfl, -⟩ := k1.shape
  obtain ⟨b, d, rfl, -⟩ := k2.shape
  obtain ⟨n, hn⟩ : ∃ n, S1.length = n := ⟨_, rfl⟩
  obtain ⟨m, hm⟩ : ∃ m, S2.length = m := ⟨_, rfl⟩
  rw [hn] at h1 ⊢
  rw [hm] at h2 ⊢
  clear k1 k2 hn hm
  by_cases e : n = m
  · subst e
    have t0 : ((n : Int) == (n : Int)) = true := beq_self_eq_true _
    by_cases hp : 0 < n
    · rw [decide_eq_true (p := n = n ∧ 0 < n) ⟨rfl, hp⟩]
      have t1 : decide (0 < n) = true := by rw [decide_eq_true_iff]; exact hp
      clear hp
      go_enter Try.func11, Try.ntmps11
      go_wp2_with fail
      go_ret
      exact ⟨rfl, ((Below.refl _ _).alloc (Nat.le_refl _) _).alloc (by simp) _⟩
    · rw [decide_eq_false (p := n = n ∧ 0 < n) (fun h => hp h.2)]
      have t1 : decide (0 < n) = false := by rw [decide_eq_false_iff_not]; exact hp
      clear hp
      go_enter Try.func11, Try.ntmps11
      go_wp2_with fail
      go_ret
      exact ⟨rfl, ((Below.refl _ _).alloc (Nat.le_refl _) _).alloc (by simp) _⟩
  · rw [decide_eq_false (p := n = m ∧ 0 < n) (fun h => e h.1)]
    have t0 : ((n : Int) == (m : Int)) = false := by rw [beq_eq_false_iff_ne]; omega
    clear e
    go_enter Try.func11, Try.ntmps11
    go_wp2_with fail
    go_ret
    exact ⟨rfl, ((Below.refl _ _).alloc (Nat.le_refl _) _).alloc (by simp) _⟩

theorem sok_made2 (ms : List Nat) (h : ms.length ≤ 40) : SOk (madeP ms ms.length) := (madeP_ok ms ms.length (Nat.le_refl _)).1.sok (by omega)
theorem lens2 {v : Value} {w : World} {ns : List Nat} (h : Sl w v (u64s ns)) : ∃ a n cap, v = .slice a n cap ∧ (n : Int) ≤ 9223372036854775807 := by
  obtain ⟨a, n, cap, rfl, hl, hc, hm, hr⟩ := h
  exact ⟨a, n, cap, rfl, by unfold maxLen at hm; omega⟩

theorem eqsparse_ask (a b : List Nat) (va vb : Value) (w : World) (h1 : Sl w va (u64s a)) (h2 : Sl w vb (u64s b)) (ha : ∀ x ∈ a, x < 18446744073709551616) (hb : ∀ x ∈ b, x < 18446744073709551616) :
    Calls Try.prog 8 #[.int .i64 7, .bool false, .bool false, .bool true, .agg #[.int .u16 0, .int .u16 0], va, vb, .func (.func 9) #[] #[], .func (.func 11) #[] #[]] w fun e w' => e = .returned (.bool true) ∧ Below w.heap.size w w' := by
  have l1 : (a.take 40).length ≤ 40 := by rw [List.length_take]; omega
  have l2 : (b.take 40).length ≤ 40 := by rw [List.length_take]; omega
  have s1 := sok_made2 (a.take 40) l1
  have s2 := sok_made2 (b.take 40) l2
  have n1 : (nums (madeP (a.take 40) (a.take 40).length)).length ≤ 3000 := by have := cnt_le (madeP (a.take 40) (a.take 40).length); have := (madeP_ok (a.take 40) _ (Nat.le_refl _)).1.len; omega
  have n2 : (nums (madeP (b.take 40) (b.take 40).length)).length ≤ 3000 := by have := cnt_le (madeP (b.take 40) (b.take 40).length); have := (madeP_ok (b.take 40) _ (Nat.le_refl _)).1.len; omega
  refine baask_both 7 false false 0 0 va vb _ _ call_BASame call_baAsMany (madeL 0 (a.take 40)) (madeL 1 (b.take 40)) (madeA (a.take 40)) (madeA (b.take 40)) 0 0 (nums (madeP (a.take 40) (a.take 40).length)) (nums (madeP (b.take 40) (b.take 40).length))
    (.sp (madeP (a.take 40) (a.take 40).length)) (.sp (madeP (b.take 40) (b.take 40).length)) _ (decide (nums (madeP (a.take 40) (a.take 40).length) = nums (madeP (b.take 40) (b.take 40).length))) w
    (fun w' hb' => made_c 0 va a 0 w' (h1.below rfl hb') ha (by decide)) (fun w' hb' => made_c 0 vb b 1 w' (h2.below rfl hb') hb (by decide))
    (runs_made [] 0 rfl (by decide) _ (by omega)) (runs_made [_] 1 rfl (by decide) _ (by omega)) (by rw [madeL_len]; omega) (by rw [madeL_len]; omega)
    (baasmany_c _ _ _ _ _ _ (by omega) (by omega)) (fun _ => basame_c _ _ (by omega) (by omega)) (fun hf => ?_) (by omega) (by omega) (by decide)
  obtain ⟨e1, e2⟩ := of_decide_eq_true hf
  have ab := asks_eq_ss _ _ s1 s2 e1 e2
  have ba := asks_eq_ss _ _ s2 s1 e1.symm (by omega)
  rw [show decide (nums (madeP (b.take 40) (b.take 40).length) = nums (madeP (a.take 40) (a.take 40).length)) = decide (nums (madeP (a.take 40) (a.take 40).length) = nums (madeP (b.take 40) (b.take 40).length)) from by rw [Bool.eq_iff_iff, decide_eq_true_iff, decide_eq_true_iff]; exact ⟨Eq.symm, Eq.symm⟩] at ba
  exact .cons (by simp) (does_count _ ⟨10, 0, 0, 0, 0, false⟩ _ rfl rfl s1) (.cons (by simp) (does7_two _ _ _ _ ab _ rfl meth_sp_Equals call_sp_Equals _ ⟨7, 0, 1, 0, 0, false⟩ rfl rfl rfl) (.cons (by simp) (does7_two _ _ _ _ ba _ rfl meth_sp_Equals call_sp_Equals _ ⟨7, 1, 0, 0, 0, false⟩ rfl rfl rfl) (.nil _)))

set_option maxRecDepth 100000 in
theorem law_baequalsparse (va vb : Value) (w : World) (h1 : IsInts .u64 w va) (h2 : IsInts .u64 w vb) :
    Calls Try.prog 4 #[va, vb] w fun e w' => e = .returned (.bool true) ∧ Below w.heap.size w w' := by
  obtain ⟨a, ha, hab⟩ := nats_of h1
  obtain ⟨b, hb, hbb⟩ := nats_of h2
  have hc := eqsparse_ask a b va vb w ha hb hab hbb
  have HC := Lib.hid hc
  obtain ⟨p, n, c, rfl, hn⟩ := lens2 ha
  obtain ⟨q, m, d, rfl, hm⟩ := lens2 hb
  clear h1 h2 ha hb hab hbb hc
  by_cases hz : (2147483647 : Int) < (n : Int)
  · go_enter Try.func4, Try.ntmps4
    go_wp2_with fail
    go_ret
    exact ⟨rfl, Below.refl _ _⟩
  · by_cases hz2 : (2147483647 : Int) < (m : Int)
    · go_enter Try.func4, Try.ntmps4
      go_wp2_with fail
      go_ret
      exact ⟨rfl, Below.refl _ _⟩
    · go_enter Try.func4, Try.ntmps4
      go_wp2_with fail
      refine HC.out.mono ?_
      rintro e w' ⟨rfl, hb⟩
      go_wp2_with fail
      go_ret
      exact ⟨rfl, hb⟩
end Go.Proofs.Ytjnefgmoobbniaa
