/- The walk of the law FnFHSorts: it returns true at every input. -/
import Derived.Test.YtmhackiiiehlmaaFhOut
import Derived.Test.YtmhackiiiehlmaaFhStepD
namespace Go.Proofs.Ytmhackiiiehlmaa
set_option linter.unusedVariables false
open Go.RowKit Go.Sort Go.Lib

theorem step4_c : Step4C := fun B hb F L j p q w h hn hB hL hp hpq => step4_any B hb F L j p q w h hn hB hL hp hpq
set_option maxRecDepth 100000 in
set_option maxHeartbeats 1000000 in
theorem law_fhsorts (v : Value) (w : World) (hv : IsInts .i64 w v) :
    Calls Try.prog 3 #[v] w fun e w' => e = .returned (.bool true) ∧ Below w.heap.size w w' := by
  obtain ⟨xs, hsl, hwf⟩ := hv
  have HV := Lib.hid hsl
  obtain ⟨a, n, cap, rfl, hl, hc, hm, hr⟩ := hsl
  rw [List.length_map] at hl
  have hm2 : (n : Int) ≤ 9223372036854775807 := by unfold maxLen at hm; omega
  have HL := Lib.hid hl
  clear hr hm hc hl hwf
  by_cases h1 : 2147483647 < (n : Int)
  · go_enter Try.func3, Try.ntmps3
    go_wp2_with fail
    go_ret
    exact ⟨rfl, Below.refl _ _⟩
  by_cases h2 : 60 < (n : Int)
  · go_enter Try.func3, Try.ntmps3
    go_wp2_with fail
    go_ret
    exact ⟨rfl, Below.refl _ _⟩
  have hn60 : n ≤ 60 := by omega
  have HPR := Lib.hid (prios_any (.slice a n cap) xs (-1099511627776) w HV.out (by rw [HL.out]; omega))
  go_enter Try.func3, Try.ntmps3
  go_wp2_with fail
  refine HPR.out.mono ?_
  rintro e w1 ⟨⟨b, rfl, hb⟩, rfl⟩
  cases b with
  | false =>
    go_wp2_with fail
    go_ret
    exact ⟨rfl, Below.refl _ _⟩
  | true =>
    have hps := hb rfl
    have HPS := Lib.hid hps
    have HPT := Lib.hid (fhput_any (.slice a n cap) xs w1 HV.out (by rw [HL.out]; omega))
    clear hb hps
    go_wp2_with fail
    refine HPT.out.mono ?_
    rintro e w2 ⟨⟨pa, ca, rfl, hown⟩, hb2⟩
    have hgood : GoodS (xs.map fun p => ((1 : Int), (0 : Int), p)) xs := good_puts (by rw [HL.out]; exact hn60) (fun p hp => by
      have := HPS.out p hp
      unfold Sm; omega)
    have HSO := Lib.hid (fhsorted_any step4_c (xs.map fun p => ((1 : Int), (0 : Int), p)) xs w1.heap.size pa xs.length ca (.slice a n cap) w2 hown (by simp) hgood (fun w' hf => HV.out.below rfl (hb2.trans (hf.below (fun k hk => (own_lt hown k hk).2) hb2.size))) (by rw [HL.out]; exact hn60) (by rw [HL.out]; omega) hb2.size)
    have HB2 := Lib.hid hb2
    clear hown hb2 hgood
    go_wp2_with fail
    refine HSO.out.mono ?_
    rintro e w3 ⟨rfl, hb3⟩
    have HB3 := Lib.hid hb3
    clear hb3
    go_wp2_with fail
    go_ret
    exact ⟨rfl, HB2.out.trans HB3.out⟩
end Go.Proofs.Ytmhackiiiehlmaa
