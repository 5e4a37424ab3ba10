/- The law FnBAEqual: it returns true at every input. -/
import Derived.Test.YtjnefgmoobbniaaBaEqDe
import Derived.Test.YtjnefgmoobbniaaBaEqSpLaw
import Derived.OpenShut
namespace Go.Proofs.Ytjnefgmoobbniaa
set_option linter.unusedVariables false
open Go.RowKit Bam

theorem meth_de_Equals (x : Value) (w : World) : (method 254 84 x "Equals").run Try.prog w = .ok (57, x) w := by kernel_rfl
theorem call_de_Equals (args : Array Value) (w : World) : (callFunc 57 args).run Try.prog w = .ok (.enter 57 args) w := by kernel_rfl
theorem call_BASame2 (args : Array Value) (w : World) : (callFunc 9 args).run Try.prog w = .ok (.enter 9 args) w := by kernel_rfl
theorem call_baAny3 (args : Array Value) (w : World) : (callFunc 10 args).run Try.prog w = .ok (.enter 10 args) w := by kernel_rfl

theorem asks_eq_dd (W V : List Nat) (h1 : W64 W) (h2 : W64 V) (hl : W.length = V.length) (h0 : 0 < V.length) (hn : V.length ≤ 1000) : Asks 57 (deA W) (deA V) (decide (dnums W = dnums V)) := by
  intro w p F q G hp hq
  refine (eqde_any p q F G W V w hp hq h1 h2 hl h0 hn).mono fun e w' ⟨b, he, hb, hbl⟩ => ⟨?_, hbl⟩
  rw [he]
  congr 2
  rw [Bool.eq_iff_iff, hb, decide_eq_true_iff]
theorem good_madeW2 (M : Nat) (hM : 0 < M) (hM8 : M ≤ 8) (ms : List Nat) : Good (deA (madeW M ms ms.length)) (dnums (madeW M ms ms.length)) := by
  obtain ⟨h1, h2⟩ := madeW_ok M hM ms ms.length (Nat.le_refl _)
  exact .inr ⟨_, rfl, h1, by rw [h2]; omega, rfl⟩
theorem madeW_dlen2 (M : Nat) (hM : 0 < M) (hM8 : M ≤ 8) (ms : List Nat) : (dnums (madeW M ms ms.length)).length ≤ 512 := by
  obtain ⟨h1, h2⟩ := madeW_ok M hM ms ms.length (Nat.le_refl _)
  have := dnums_len (madeW M ms ms.length)
  omega

theorem eq_ask (x : Nat) (a b : List Nat) (va vb : Value) (w : World) (hx : x < 65536) (h1 : Sl w va (u64s a)) (h2 : Sl w vb (u64s b)) (ha : ∀ x ∈ a, x < 18446744073709551616) (hb : ∀ x ∈ b, x < 18446744073709551616) :
    Calls Try.prog 8 #[.int .i64 7, .bool true, .bool true, .bool true, .agg #[.int .u16 (x : Int), .int .u16 (x : Int)], va, vb, .func (.func 9) #[] #[], .func (.func 10) #[] #[]] w fun e w' => e = .returned (.bool true) ∧ Below w.heap.size w w' := by
  obtain ⟨N1, hN1⟩ : ∃ N, N = 1 + x % 512 := ⟨_, rfl⟩
  obtain ⟨M1, hM1⟩ : ∃ M, M = (N1 + 63) / 64 := ⟨_, rfl⟩
  have l1 : (a.take 40).length ≤ 40 := by rw [List.length_take]; omega
  have l2 : (b.take 40).length ≤ 40 := by rw [List.length_take]; omega
  have s1 := good_madeW2 M1 (by omega) (by omega) (a.take 40)
  have s2 := good_madeW2 M1 (by omega) (by omega) (b.take 40)
  have n1 := madeW_dlen2 M1 (by omega) (by omega) (a.take 40)
  have n2 := madeW_dlen2 M1 (by omega) (by omega) (b.take 40)
  obtain ⟨o1, k1⟩ := madeW_ok M1 (by omega) (a.take 40) _ (Nat.le_refl _)
  obtain ⟨o2, k2⟩ := madeW_ok M1 (by omega) (b.take 40) _ (Nat.le_refl _)
  refine baask_both 7 true true x x va vb _ _ call_BASame2 call_baAny3 (madeLD 0 N1 (64 * M1) (a.take 40)) (madeLD 1 N1 (64 * M1) (b.take 40)) (madeA (a.take 40)) (madeA (b.take 40)) M1 M1 (dnums (madeW M1 (a.take 40) (a.take 40).length)) (dnums (madeW M1 (b.take 40) (b.take 40).length))
    (deA (madeW M1 (a.take 40) (a.take 40).length)) (deA (madeW M1 (b.take 40) (b.take 40).length)) true (decide (dnums (madeW M1 (a.take 40) (a.take 40).length) = dnums (madeW M1 (b.take 40) (b.take 40).length))) w
    (fun w' hb' => made_cd x N1 M1 va a 0 w' (h1.below rfl hb') ha (by decide) hx hN1 hM1) (fun w' hb' => made_cd x N1 M1 vb b 1 w' (h2.below rfl hb') hb (by decide) hx hN1 hM1)
    (runs_madeD [] 0 N1 M1 rfl (by decide) hM1 (by omega) (by omega) _ (by omega)) (runs_madeD [_] 1 N1 M1 rfl (by decide) hM1 (by omega) (by omega) _ (by omega)) (by rw [madeLD_len]; omega) (by rw [madeLD_len]; omega)
    (baany_c _ _ _ _ _ _) (fun _ => basame_c _ _ (by omega) (by omega)) (fun _ => ?_) (by omega) (by omega) (by decide)
  have ab := asks_eq_dd _ _ o1 o2 (k1.trans k2.symm) (by omega) (by omega)
  have ba := asks_eq_dd _ _ o2 o1 (k2.trans k1.symm) (by omega) (by omega)
  rw [show decide (dnums (madeW M1 (b.take 40) (b.take 40).length) = dnums (madeW M1 (a.take 40) (a.take 40).length)) = decide (dnums (madeW M1 (a.take 40) (a.take 40).length) = dnums (madeW M1 (b.take 40) (b.take 40).length)) from by rw [Bool.eq_iff_iff, decide_eq_true_iff, decide_eq_true_iff]; exact ⟨Eq.symm, Eq.symm⟩] at ba
  exact .cons (by simp) (does_count_g _ ⟨10, 0, 0, 0, 0, false⟩ _ _ rfl rfl s1) (.cons (by simp) (does7_two _ _ _ _ ab _ rfl meth_de_Equals call_de_Equals _ ⟨7, 0, 1, 0, 0, false⟩ rfl rfl rfl) (.cons (by simp) (does7_two _ _ _ _ ba _ rfl meth_de_Equals call_de_Equals _ ⟨7, 1, 0, 0, 0, false⟩ rfl rfl rfl) (.nil _)))

set_option maxRecDepth 100000 in
theorem law_baequal (x : Nat) (va vb : Value) (w : World) (hx : x < 65536) (h1 : IsInts .u64 w va) (h2 : IsInts .u64 w vb) :
    Calls Try.prog 3 #[.int .u16 (x : Int), va, vb] w fun e w' => e = .returned (.bool true) ∧ Below w.heap.size w w' := by
  obtain ⟨a, ha, hab⟩ := nats_of h1
  obtain ⟨b, hb, hbb⟩ := nats_of h2
  have hc := eq_ask x a b va vb w hx ha hb hab hbb
  have HC := Lib.hid hc
  obtain ⟨p, n, c, rfl, hn⟩ := lens2 ha
  obtain ⟨q, m, d, rfl, hm⟩ := lens2 hb
  clear h1 h2 ha hb hab hbb hc hx
  by_cases hz : (2147483647 : Int) < (n : Int)
  · go_enter Try.func3, Try.ntmps3
    go_wp2_with fail
    go_ret
    exact ⟨rfl, Below.refl _ _⟩
  · by_cases hz2 : (2147483647 : Int) < (m : Int)
    · go_enter Try.func3, Try.ntmps3
      go_wp2_with fail
      go_ret
      exact ⟨rfl, Below.refl _ _⟩
    · go_enter Try.func3, Try.ntmps3
      go_wp2_with fail
      refine HC.out.mono ?_
      rintro e w' ⟨rfl, hb⟩
      have HB2 := Lib.hid hb
      clear hb
      go_wp2_with fail
      go_ret
      exact ⟨rfl, HB2.out⟩
theorem law_baequal_i (z : Int) (va vb : Value) (w : World) (hz : (Lit.int .u16 z).wf = true) (h1 : IsInts .u64 w va) (h2 : IsInts .u64 w vb) :
    Calls Try.prog 3 #[.int .u16 z, va, vb] w fun e w' => e = .returned (.bool true) ∧ Below w.heap.size w w' := by
  have hb := bounds_u16 hz
  obtain ⟨x, rfl⟩ : ∃ x : Nat, z = (x : Int) := ⟨z.toNat, by omega⟩
  exact law_baequal x va vb w (by omega) h1 h2
end Go.Proofs.Ytjnefgmoobbniaa
