/- The law FnBAMeet: it returns true at every input. -/
import Derived.Test.YtjnefgmoobbniaaGreatBaMeet
import Derived.Test.YtjnefgmoobbniaaGreatBaAndDeLaw
namespace Go.Proofs.YtjnefgmoobbniaaGreat
set_option linter.unusedVariables false
open Go.RowKit Bam

theorem meth_de_Meets (x : Value) (w : World) : (method 250 80 x "Intersects").run Tryz.prog w = .ok (61, x) w := by kernel_rfl
theorem call_de_Meets (args : Array Value) (w : World) : (callFunc 61 args).run Tryz.prog w = .ok (.enter 61 args) w := by kernel_rfl
theorem call_BAWithin (args : Array Value) (w : World) : (callFunc 12 args).run Tryz.prog w = .ok (.enter 12 args) w := by kernel_rfl
theorem call_baNoLonger (args : Array Value) (w : World) : (callFunc 13 args).run Tryz.prog w = .ok (.enter 13 args) w := by kernel_rfl

theorem meet_ask (x y : Nat) (a b : List Nat) (va vb : Value) (w : World) (hx : x < 65536) (hy : y < 65536) (h1 : Sl w va (u64s a)) (h2 : Sl w vb (u64s b)) (ha : ∀ x ∈ a, x < 18446744073709551616) (hb : ∀ x ∈ b, x < 18446744073709551616) :
    Calls Tryz.prog 11 #[.int .i64 8, .bool true, .bool true, .bool false, .agg #[.int .u16 (x : Int), .int .u16 (y : Int)], va, vb, .func (.func 12) #[] #[], .func (.func 13) #[] #[]] w fun e w' => e = .returned (.bool true) ∧ Below w.heap.size w w' := by
  obtain ⟨N1, hN1⟩ : ∃ N, N = 1 + x % 512 := ⟨_, rfl⟩
  obtain ⟨N2, hN2⟩ : ∃ N, N = 1 + y % 512 := ⟨_, rfl⟩
  obtain ⟨M1, hM1⟩ : ∃ M, M = (N1 + 63) / 64 := ⟨_, rfl⟩
  obtain ⟨M2, hM2⟩ : ∃ M, M = (N2 + 63) / 64 := ⟨_, rfl⟩
  have l1 : (a.take 40).length ≤ 40 := by rw [List.length_take]; omega
  have l2 : (b.take 40).length ≤ 40 := by rw [List.length_take]; omega
  have s1 := good_madeW M1 (by omega) (by omega) (a.take 40)
  have s2 := good_madeW M2 (by omega) (by omega) (b.take 40)
  have n1 := madeW_dlen M1 (by omega) (by omega) (a.take 40)
  have n2 := madeW_dlen M2 (by omega) (by omega) (b.take 40)
  obtain ⟨o1, k1⟩ := madeW_ok M1 (by omega) (a.take 40) _ (Nat.le_refl _)
  obtain ⟨o2, k2⟩ := madeW_ok M2 (by omega) (b.take 40) _ (Nat.le_refl _)
  refine baask_one 8 true true x y va vb _ _ call_BAWithin call_baNoLonger (madeLD 0 N1 (64 * M1) (a.take 40)) (madeLD 1 N2 (64 * M2) (b.take 40)) (madeA (a.take 40)) (madeA (b.take 40)) M1 M2 (dnums (madeW M1 (a.take 40) (a.take 40).length)) (dnums (madeW M2 (b.take 40) (b.take 40).length))
    (deA (madeW M1 (a.take 40) (a.take 40).length)) (deA (madeW M2 (b.take 40) (b.take 40).length)) _ _ w
    (fun w' hb' => made_cd x N1 M1 va a 0 w' (h1.below rfl hb') ha (by decide) hx hN1 hM1) (fun w' hb' => made_cd y N2 M2 vb b 1 w' (h2.below rfl hb') hb (by decide) hy hN2 hM2)
    (runs_madeD [] 0 N1 M1 rfl (by decide) hM1 (by omega) (by omega) _ (by omega)) (runs_madeD [_] 1 N2 M2 rfl (by decide) hM2 (by omega) (by omega) _ (by omega)) (by rw [madeLD_len]; omega) (by rw [madeLD_len]; omega)
    (banolonger_c _ _ _ _ (by omega) (by omega)) (fun _ => bawithin_c _ _ (by omega) (by omega)) (fun hf => ?_) (by omega) (by omega) (by decide)
  have hle := of_decide_eq_true hf
  have ab := asks_meets_dd _ _ o1 o2 (by omega) (by omega)
  exact .cons (by simp) (does_count_g _ ⟨10, 0, 0, 0, 0, false⟩ _ _ rfl rfl s1) (.cons (by simp) (does8_two _ _ _ _ ab _ rfl meth_de_Meets call_de_Meets _ ⟨8, 0, 1, 0, 0, false⟩ rfl rfl rfl) (.nil _))

set_option maxRecDepth 100000 in
theorem law_bameet (vs va vb : Value) (w : World) (h0 : Pair16 w vs) (h1 : IsInts .u64 w va) (h2 : IsInts .u64 w vb) :
    Calls Tryz.prog 5 #[vs, va, vb] w fun e w' => e = .returned (.bool true) ∧ Below w.heap.size w w' := by
  obtain ⟨x, y, rfl, hx, hy⟩ := h0
  obtain ⟨a, ha, hab⟩ := nats_of h1
  obtain ⟨b, hb, hbb⟩ := nats_of h2
  have hc : ∀ w', Below w.heap.size w w' → _ := fun w' hw => meet_ask x y a b va vb w' hx hy (ha.below rfl hw) (hb.below rfl hw) hab hbb
  have HC := Lib.hid hc
  obtain ⟨p, n, c, rfl, hn⟩ := lens3 ha
  obtain ⟨q, m, d, rfl, hm⟩ := lens3 hb
  have hb1 : Below w.heap.size w (w.alloc (.cells #[.int .u16 (x : Int), .int .u16 (y : Int)] 23)) := (Below.refl _ _).alloc (Nat.le_refl _) _
  have HB1 := Lib.hid hb1
  clear h1 h2 ha hb hab hbb hc hx hy hb1
  by_cases hz : (2147483647 : Int) < (n : Int)
  · go_enter Tryz.func5, Tryz.ntmps5
    go_wp2_with fail
    go_ret
    exact ⟨rfl, HB1.out⟩
  · by_cases hz2 : (2147483647 : Int) < (m : Int)
    · go_enter Tryz.func5, Tryz.ntmps5
      go_wp2_with fail
      go_ret
      exact ⟨rfl, HB1.out⟩
    · go_enter Tryz.func5, Tryz.ntmps5
      go_wp2_with fail
      refine (HC.out _ HB1.out).mono ?_
      rintro e w' ⟨rfl, hb⟩
      have HB2 := Lib.hid (HB1.out.trans (hb.mono HB1.out.size))
      clear hb
      go_wp2_with fail
      go_ret
      exact ⟨rfl, HB2.out⟩
end Go.Proofs.YtjnefgmoobbniaaGreat
