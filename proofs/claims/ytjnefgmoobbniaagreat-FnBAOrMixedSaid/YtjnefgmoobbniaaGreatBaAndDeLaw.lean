/- The law FnBAAnd: it returns true at every input. -/
import Derived.Test.YtjnefgmoobbniaaGreatBaAndDe
import Derived.Test.YtjnefgmoobbniaaGreatBaSets3
import Derived.OpenShut
namespace Go.Proofs.YtjnefgmoobbniaaGreat
set_option linter.unusedVariables false
open Go.RowKit Bam

/-- two sizes -/
def Pair16 (w : World) (v : Value) : Prop := ∃ x y : Nat, v = .agg #[.int .u16 (x : Int), .int .u16 (y : Int)] ∧ x < 65536 ∧ y < 65536
theorem nat_u16 {n : Int} (h : (Lit.int .u16 n).wf = true) : ∃ x : Nat, n = (x : Int) ∧ x < 65536 := by
  have := bounds_u16 h
  exact ⟨n.toNat, by omega, by omega⟩
theorem okWide_array {P : Program} {W : World} {r : Reach} {b0 : Nat} {t e : TypeId} {n : Nat} {v : Value} (ht : P.underlying t = some (.array n e)) (hv : Value.okWide P W r b0 t v) : ∃ cs, v = .agg cs := by
  unfold Value.okWide at hv
  rw [ht] at hv
  obtain ⟨cs, h, -⟩ := hv
  exact ⟨cs, h⟩
theorem open_pair_gen {P : Program} {H : Type} {enc : TypeId × Value → H} {W : World} {t e : TypeId} {v : Value} {d : DataW H} {p : List MemPlace} {r : Reach} {b0 : Nat} (ht : P.underlying t = some (.array 2 e)) (he0 : P.underlying e = some (.int .u16)) (hc : P.cellsOf t = 2) (he : P.cellsOf e = 1) (hv : Value.okWide P W r b0 t v) (h : DataW.Trod enc P W 0 (fun _ => true) true t v d p) : Pair16 W v := by
  obtain ⟨cs, rfl⟩ := okWide_array ht hv
  obtain ⟨fuel, hf⟩ := h
  obtain ⟨xs, m, rfl, -, hl, hn, hi⟩ := DataW.trod_array ht hf
  rw [hc] at hl
  have hl' : cs.toList.length = 2 := hl
  obtain ⟨c0, c1, hcs⟩ : ∃ c0 c1, cs.toList = [c0, c1] := by
    match hh : cs.toList, hl' with
    | [a, b], _ => exact ⟨a, b, rfl⟩
  have h0 := hi 0 (by decide)
  have h1 := hi 1 (by decide)
  have hcl : (Value.agg cs).cells.toList = [c0, c1] := hcs
  rw [hcl, he] at h0 h1
  have g0 : xs[0]? = some (xs[0]'(by omega)) := List.getElem?_eq_getElem (by omega)
  have g1 : xs[1]? = some (xs[1]'(by omega)) := List.getElem?_eq_getElem (by omega)
  rw [g0] at h0
  rw [g1] at h1
  obtain ⟨n0, e0, -, w0⟩ := DataW.trod_int he0 h0
  obtain ⟨n1, e1, -, w1⟩ := DataW.trod_int he0 h1
  simp at e0 e1
  obtain ⟨x, rfl, hx⟩ := nat_u16 w0
  obtain ⟨y, rfl, hy⟩ := nat_u16 w1
  refine ⟨x, y, ?_, hx, hy⟩
  congr 1
  apply Array.toList_inj.1
  rw [hcs, e0, e1]
set_option maxRecDepth 100000 in
theorem open_pair16 {H : Type} {enc : TypeId × Value → H} {W : World} {v : Value} {d : DataW H} {p : List MemPlace} {r : Reach} {b0 : Nat} (hv : Value.okWide Tryz.prog W r b0 23 v) (h : DataW.Trod enc Tryz.prog W 0 (fun _ => true) true 23 v d p) : Pair16 W v :=
  open_pair_gen Tryz.underlying23 Tryz.underlying22 (by kernel_rfl) (by kernel_rfl) hv h

theorem meth_de_And (x : Value) (w : World) : (method 250 80 x "And").run Tryz.prog w = .ok (53, x) w := by kernel_rfl
theorem call_de_And (args : Array Value) (w : World) : (callFunc 53 args).run Tryz.prog w = .ok (.enter 53 args) w := by kernel_rfl
theorem call_BAAnd2 (args : Array Value) (w : World) : (callFunc 9 args).run Tryz.prog w = .ok (.enter 9 args) w := by kernel_rfl
theorem call_baAny2 (args : Array Value) (w : World) : (callFunc 10 args).run Tryz.prog w = .ok (.enter 10 args) w := by kernel_rfl
theorem assert_de_de (v : Value) (w : World) : (Instr.typeAssert (.iface 80 v) 57 80 true).run Tryz.prog w = .ok (.tuple #[v, .bool true]) w := by kernel_rfl

set_option maxRecDepth 100000 in
theorem makes_and_dd (W V : List Nat) (h1 : W64 W) (h2 : W64 V) (hn : W.length ≤ 9000) (hm : V.length ≤ 9000) : Makes 53 (deA W) (deA V) (deA (wordsOf (min W.length V.length) fun i => W.getD i 0 &&& V.getD i 0)) := by
  intro w p F q G hp hq
  have ha := andde_any p q F G W V w hp hq h1 h2 hn hm
  have HA := Lib.hid ha
  show Calls Tryz.prog _ #[.pointer (some ⟨p, 0, none⟩), .iface 80 (.pointer (some ⟨q, 0, none⟩))] w _
  have hta := assert_de_de
  clear ha hp hq h1 h2 hn hm
  go_enter Tryz.func53, Tryz.ntmps53
  go_wp2_with fail
  refine HA.out.mono ?_
  rintro e w' ⟨r, H, rfl, hs, hf, hb⟩
  have HS := Lib.hid hs
  have HF := Lib.hid hf
  have HB := Lib.hid hb
  clear hs hf hb
  go_wp2_with fail
  go_ret
  exact ⟨r, H, rfl, HS.out, HF.out, HB.out⟩

theorem good_madeW (M : Nat) (hM : 0 < M) (hM8 : M ≤ 8) (ms : List Nat) : Good (deA (madeW M ms ms.length)) (dnums (madeW M ms ms.length)) := by
  obtain ⟨h1, h2⟩ := madeW_ok M hM ms ms.length (Nat.le_refl _)
  exact .inr ⟨_, rfl, h1, by rw [h2]; omega, rfl⟩
theorem madeW_dlen (M : Nat) (hM : 0 < M) (hM8 : M ≤ 8) (ms : List Nat) : (dnums (madeW M ms ms.length)).length ≤ 512 := by
  obtain ⟨h1, h2⟩ := madeW_ok M hM ms ms.length (Nat.le_refl _)
  have := dnums_len (madeW M ms ms.length)
  omega

theorem and_two_de (x y : Nat) (a b : List Nat) (va vb : Value) (w : World) (hx : x < 65536) (hy : y < 65536) (h1 : Sl w va (u64s a)) (h2 : Sl w vb (u64s b)) (ha : ∀ x ∈ a, x < 18446744073709551616) (hb : ∀ x ∈ b, x < 18446744073709551616) :
    Calls Tryz.prog 8 #[.int .i64 12, .bool true, .bool true, .agg #[.int .u16 (x : Int), .int .u16 (y : Int)], va, vb, .func (.func 9) #[] #[], .func (.func 10) #[] #[]] w fun e w' => e = .returned (.bool true) ∧ Below w.heap.size w w' := by
  obtain ⟨N1, hN1⟩ : ∃ N, N = 1 + x % 512 := ⟨_, rfl⟩
  obtain ⟨N2, hN2⟩ : ∃ N, N = 1 + y % 512 := ⟨_, rfl⟩
  obtain ⟨M1, hM1⟩ : ∃ M, M = (N1 + 63) / 64 := ⟨_, rfl⟩
  obtain ⟨M2, hM2⟩ : ∃ M, M = (N2 + 63) / 64 := ⟨_, rfl⟩
  have l1 : (a.take 40).length ≤ 40 := by rw [List.length_take]; omega
  have l2 : (b.take 40).length ≤ 40 := by rw [List.length_take]; omega
  have s1 := good_madeW M1 (by omega) (by omega) (a.take 40)
  have s2 := good_madeW M2 (by omega) (by omega) (b.take 40)
  have n1 := madeW_dlen M1 (by omega) (by omega) (a.take 40)
  have n2 := madeW_dlen M2 (by omega) (by omega) (b.take 40)
  obtain ⟨o1, k1⟩ := madeW_ok M1 (by omega) (a.take 40) _ (Nat.le_refl _)
  obtain ⟨o2, k2⟩ := madeW_ok M2 (by omega) (b.take 40) _ (Nat.le_refl _)
  refine batwo_any 12 true true x y va vb _ _ call_BAAnd2 call_baAny2 (madeLD 0 N1 (64 * M1) (a.take 40)) (madeLD 1 N2 (64 * M2) (b.take 40)) (madeA (a.take 40)) (madeA (b.take 40)) M1 M2 (dnums (madeW M1 (a.take 40) (a.take 40).length)) (dnums (madeW M2 (b.take 40) (b.take 40).length)) (sAnd (dnums (madeW M1 (a.take 40) (a.take 40).length)) (dnums (madeW M2 (b.take 40) (b.take 40).length)))
    (deA (madeW M1 (a.take 40) (a.take 40).length)) (deA (madeW M2 (b.take 40) (b.take 40).length)) (deA (wordsOf (min (madeW M1 (a.take 40) (a.take 40).length).length (madeW M2 (b.take 40) (b.take 40).length).length) fun i => (madeW M1 (a.take 40) (a.take 40).length).getD i 0 &&& (madeW M2 (b.take 40) (b.take 40).length).getD i 0)) true w
    (fun w' hb' => made_cd x N1 M1 va a 0 w' (h1.below rfl hb') ha (by decide) hx hN1 hM1) (fun w' hb' => made_cd y N2 M2 vb b 1 w' (h2.below rfl hb') hb (by decide) hy hN2 hM2)
    (runs_madeD [] 0 N1 M1 rfl (by decide) hM1 (by omega) (by omega) _ (by omega)) (runs_madeD [_] 1 N2 M2 rfl (by decide) hM2 (by omega) (by omega) _ (by omega)) (by rw [madeLD_len]; omega) (by rw [madeLD_len]; omega)
    (baany_c _ _ _ _ _ _) (fun _ => baand_c _ _ (by omega) (by omega)) (fun _ => ?_) (by omega) (by omega) ?_ (by decide)
  · refine tail_runs_g 12 _ _ _ _ _ _ s1 s2 (.inr ⟨_, rfl, ?_, ?_, dAnd_ok o1 o2⟩) (does12_two _ _ _ _ (makes_and_dd _ _ o1 o2 (by omega) (by omega)) _ rfl meth_de_And call_de_And [_, _] ⟨12, 0, 1, 0, 0, false⟩ rfl rfl rfl)
    · exact wordsOf_ok fun i _ => Nat.lt_of_le_of_lt Nat.and_le_left (getD_lt o1 i)
    · rw [wordsOf_len, k1, k2]; omega
  · have := List.length_filter_le (sHas (dnums (madeW M2 (b.take 40) (b.take 40).length))) (dnums (madeW M1 (a.take 40) (a.take 40).length))
    unfold sAnd
    omega

theorem lens3 {v : Value} {w : World} {ns : List Nat} (h : Sl w v (u64s ns)) : ∃ a n cap, v = .slice a n cap ∧ (n : Int) ≤ 9223372036854775807 := by
  obtain ⟨a, n, cap, rfl, hl, hc, hm, hr⟩ := h
  exact ⟨a, n, cap, rfl, by unfold maxLen at hm; omega⟩
set_option maxRecDepth 100000 in
theorem law_baand (vs va vb : Value) (w : World) (h0 : Pair16 w vs) (h1 : IsInts .u64 w va) (h2 : IsInts .u64 w vb) :
    Calls Tryz.prog 3 #[vs, va, vb] w fun e w' => e = .returned (.bool true) ∧ Below w.heap.size w w' := by
  obtain ⟨x, y, rfl, hx, hy⟩ := h0
  obtain ⟨a, ha, hab⟩ := nats_of h1
  obtain ⟨b, hb, hbb⟩ := nats_of h2
  have hc : ∀ w', Below w.heap.size w w' → _ := fun w' hw => and_two_de x y a b va vb w' hx hy (ha.below rfl hw) (hb.below rfl hw) hab hbb
  have HC := Lib.hid hc
  obtain ⟨p, n, c, rfl, hn⟩ := lens3 ha
  obtain ⟨q, m, d, rfl, hm⟩ := lens3 hb
  have hb1 : Below w.heap.size w (w.alloc (.cells #[.int .u16 (x : Int), .int .u16 (y : Int)] 23)) := (Below.refl _ _).alloc (Nat.le_refl _) _
  have HB1 := Lib.hid hb1
  clear h1 h2 ha hb hab hbb hc hx hy hb1
  by_cases hz : (2147483647 : Int) < (n : Int)
  · go_enter Tryz.func3, Tryz.ntmps3
    go_wp2_with fail
    go_ret
    exact ⟨rfl, HB1.out⟩
  · by_cases hz2 : (2147483647 : Int) < (m : Int)
    · go_enter Tryz.func3, Tryz.ntmps3
      go_wp2_with fail
      go_ret
      exact ⟨rfl, HB1.out⟩
    · go_enter Tryz.func3, Tryz.ntmps3
      go_wp2_with fail
      refine (HC.out _ HB1.out).mono ?_
      rintro e w' ⟨rfl, hb⟩
      have HB2 := Lib.hid (HB1.out.trans (hb.mono HB1.out.size))
      clear hb
      go_wp2_with fail
      go_ret
      exact ⟨rfl, HB2.out⟩
end Go.Proofs.YtjnefgmoobbniaaGreat
