/- The law FnBANandMixed: it returns true at every input (printed by gen_ba_mix.py). -/
import Derived.Test.YtjnefgmoobbniaaGreatBaNandDS
import Derived.Test.YtjnefgmoobbniaaGreatBaSmall
import Derived.Test.YtjnefgmoobbniaaGreatBaAndDeLaw
namespace Go.Proofs.YtjnefgmoobbniaaGreat
set_option linter.unusedVariables false
open Go.RowKit Bam

theorem good_madeW3 (M : Nat) (hM : 0 < M) (hM8 : M ≤ 8) (ms : List Nat) : Good (deA (madeW M ms ms.length)) (dnums (madeW M ms ms.length)) := by
  obtain ⟨h1, h2⟩ := madeW_ok M hM ms ms.length (Nat.le_refl _)
  exact .inr ⟨_, rfl, h1, by rw [h2]; omega, rfl⟩
theorem madeW_dlen3 (M : Nat) (hM : 0 < M) (hM8 : M ≤ 8) (ms : List Nat) : (dnums (madeW M ms ms.length)).length ≤ 512 := by
  obtain ⟨h1, h2⟩ := madeW_ok M hM ms ms.length (Nat.le_refl _)
  have := dnums_len (madeW M ms ms.length)
  omega
theorem sok_made3 (ms : List Nat) (h : ms.length ≤ 40) : SOk (madeP ms ms.length) := (madeP_ok ms ms.length (Nat.le_refl _)).1.sok (by omega)
theorem meth_de_Nand (x : Value) (w : World) : (method 250 80 x "Nand").run Tryz.prog w = .ok (63, x) w := by kernel_rfl
theorem call_de_Nand (args : Array Value) (w : World) : (callFunc 63 args).run Tryz.prog w = .ok (.enter 63 args) w := by kernel_rfl
theorem meth_sp_Nand (x : Value) (w : World) : (method 250 82 x "Nand").run Tryz.prog w = .ok (106, x) w := by kernel_rfl
theorem call_sp_Nand (args : Array Value) (w : World) : (callFunc 106 args).run Tryz.prog w = .ok (.enter 106 args) w := by kernel_rfl
theorem call_nandmSpec (args : Array Value) (w : World) : (callFunc 15 args).run Tryz.prog w = .ok (.enter 15 args) w := by kernel_rfl
theorem call_nandmFits (args : Array Value) (w : World) : (callFunc 16 args).run Tryz.prog w = .ok (.enter 16 args) w := by kernel_rfl
theorem assertA_de_sp (v : Value) (w : World) : (Instr.typeAssert (.iface 80 v) 57 82 true).run Tryz.prog w = .ok (.tuple #[.pointer none, .bool false]) w := by kernel_rfl
theorem assertA_de_de (v : Value) (w : World) : (Instr.typeAssert (.iface 80 v) 57 80 false).run Tryz.prog w = .ok v w := by kernel_rfl
theorem assertA_sp_de (v : Value) (w : World) : (Instr.typeAssert (.iface 82 v) 57 80 true).run Tryz.prog w = .ok (.tuple #[.pointer none, .bool false]) w := by kernel_rfl
theorem assertA_sp_sp (v : Value) (w : World) : (Instr.typeAssert (.iface 82 v) 57 82 false).run Tryz.prog w = .ok v w := by kernel_rfl

set_option maxRecDepth 100000 in
theorem makes_nand_ds (ps : Ps) (W : List Nat) (h1 : W64 W) (h2 : Ok ps) (hn : ps.length ≤ 1000) (hm : W.length ≤ 9000) : Makes 63 (deA W) (.sp ps) (deA (wordsOf W.length fun j => W.getD j 0 ^^^ (W.getD j 0 &&& Bam.look ps j))) := by
  intro w p F q G hp hq
  have ha := nandds_any p q F G W ps w hp hq h1 h2 hn hm
  have HA := Lib.hid ha
  show Calls Tryz.prog _ #[.pointer (some ⟨p, 0, none⟩), .iface 82 (.pointer (some ⟨q, 0, none⟩))] w _
  have hta := assertA_sp_de (.pointer (some ⟨q, 0, none⟩))
  have htb := assertA_sp_sp (.pointer (some ⟨q, 0, none⟩))
  clear ha hp hq
  go_enter Tryz.func63, Tryz.ntmps63
  go_wp2_with fail
  refine HA.out.mono ?_
  rintro e w' ⟨r, H, rfl, hs, hf, hb⟩
  have HS := Lib.hid hs
  have HF := Lib.hid hf
  have HB := Lib.hid hb
  clear hs hf hb
  go_wp2_with fail
  go_ret
  exact ⟨r, H, rfl, HS.out, HF.out, HB.out⟩

set_option maxRecDepth 100000 in
theorem makes_nand_sd (ps : Ps) (W : List Nat) (h1 : Ok ps) (nz : Nz ps) (h2 : W64 W) (hn : ps.length ≤ 1000) (hm : W.length ≤ 9000) : Makes 106 (.sp ps) (deA W) (.sp (nandD ps W)) := by
  intro w p F q G hp hq
  have ha := nandsd_any p q F G ps W w hp hq h1 nz h2 hn hm
  have HA := Lib.hid ha
  show Calls Tryz.prog _ #[.pointer (some ⟨p, 0, none⟩), .iface 80 (.pointer (some ⟨q, 0, none⟩))] w _
  have hta := assertA_de_sp (.pointer (some ⟨q, 0, none⟩))
  have htb := assertA_de_de (.pointer (some ⟨q, 0, none⟩))
  clear ha hp hq
  go_enter Tryz.func106, Tryz.ntmps106
  go_wp2_with fail
  refine HA.out.mono ?_
  rintro e w' ⟨r, H, rfl, hs, hf, hb⟩
  have HS := Lib.hid hs
  have HF := Lib.hid hf
  have HB := Lib.hid hb
  clear hs hf hb
  go_wp2_with fail
  go_ret
  exact ⟨r, H, rfl, HS.out, HF.out, HB.out⟩

theorem sok_nandD {ps : Ps} (h : SOk ps) (W : List Nat) : SOk (nandD ps W) := by
  obtain ⟨a, b, _⟩ := nandD_look h.ok W
  refine ⟨a, b, Nat.le_trans (nandD_len ps W) h.len, fun q hq => ?_⟩
  obtain ⟨y, hy, e⟩ := nandD_keys hq
  rw [← e]; exact h.small y hy

theorem nandm_two_t (x y : Nat) (a b : List Nat) (va vb : Value) (w : World) (hx : x < 65536) (hy : y < 65536) (h1 : Sl w va (u64s a)) (h2 : Sl w vb (u64s b)) (ha : ∀ x ∈ a, x < 2000) (hb : ∀ x ∈ b, x < 2000) :
    Calls Tryz.prog 8 #[.int .i64 13, .bool true, .bool false, .agg #[.int .u16 (x : Int), .int .u16 (y : Int)], va, vb, .func (.func 15) #[] #[], .func (.func 16) #[] #[]] w fun e w' => e = .returned (.bool true) ∧ Below w.heap.size w w' := by
  have ha' : ∀ x ∈ a, x < 18446744073709551616 := fun x hx => Nat.lt_trans (ha x hx) (by decide)
  have hb2 : ∀ x ∈ b, x < 18446744073709551616 := fun x hx => Nat.lt_trans (hb x hx) (by decide)
  obtain ⟨N, hN⟩ : ∃ N, N = 1 + x % 512 := ⟨_, rfl⟩
  obtain ⟨M, hM⟩ : ∃ M, M = (N + 63) / 64 := ⟨_, rfl⟩
  have hM0 : 0 < M := by omega
  have hM8 : M ≤ 8 := by omega
  have l1 : (a.take 40).length ≤ 40 := by rw [List.length_take]; omega
  have l2 : (b.take 40).length ≤ 40 := by rw [List.length_take]; omega
  have gd := good_madeW3 M hM0 hM8 (a.take 40)
  have nd := madeW_dlen3 M hM0 hM8 (a.take 40)
  obtain ⟨o1, k1⟩ := madeW_ok M hM0 (a.take 40) _ (Nat.le_refl _)
  have s1 := sok_made3 (b.take 40) (by omega)
  have gs : Good (.sp (madeP (b.take 40) (b.take 40).length)) (nums (madeP (b.take 40) (b.take 40).length)) := .inl ⟨_, rfl, s1, rfl⟩
  have ns : (nums (madeP (b.take 40) (b.take 40).length)).length ≤ 2560 := by have := cnt_le (madeP (b.take 40) (b.take 40).length); have := (madeP_ok (b.take 40) _ (Nat.le_refl _)).1.len; omega
  have hmk := makes_nand_ds (madeP (b.take 40) (b.take 40).length) (madeW M (a.take 40) (a.take 40).length) o1 s1.ok (Nat.le_trans s1.len (by decide)) (by omega)
  have gz : Good (deA (wordsOf (madeW M (a.take 40) (a.take 40).length).length fun j => (madeW M (a.take 40) (a.take 40).length).getD j 0 ^^^ ((madeW M (a.take 40) (a.take 40).length).getD j 0 &&& Bam.look (madeP (b.take 40) (b.take 40).length) j))) (sNand (dnums (madeW M (a.take 40) (a.take 40).length)) (nums (madeP (b.take 40) (b.take 40).length))) := .inr ⟨_, rfl, wordsOf_ok fun i _ => nand_lt (getD_lt o1 i), by rw [wordsOf_len]; omega, dNand_ok s1.ok o1⟩
  refine batwo_any 13 true false x y va vb _ _ call_nandmSpec call_nandmFits (madeLD 0 N (64 * M) (a.take 40)) (madeL 1 (b.take 40)) (madeA (a.take 40)) (madeA (b.take 40)) M 0 (dnums (madeW M (a.take 40) (a.take 40).length)) (nums (madeP (b.take 40) (b.take 40).length)) (sNand (dnums (madeW M (a.take 40) (a.take 40).length)) (nums (madeP (b.take 40) (b.take 40).length)))
    (deA (madeW M (a.take 40) (a.take 40).length)) (.sp (madeP (b.take 40) (b.take 40).length)) (deA (wordsOf (madeW M (a.take 40) (a.take 40).length).length fun j => (madeW M (a.take 40) (a.take 40).length).getD j 0 ^^^ ((madeW M (a.take 40) (a.take 40).length).getD j 0 &&& Bam.look (madeP (b.take 40) (b.take 40).length) j))) (decide ((nums (madeP (b.take 40) (b.take 40).length)).getLastD 0 < 64 * M)) w (fun w' hb' => made_cd x N M va a 0 w' (h1.below rfl hb') ha' (by decide) hx hN hM) (fun w' hb' => made_c y vb b 1 w' (h2.below rfl hb') hb2 (by decide))
    (runs_madeD [] 0 N M rfl (by decide) hM (by omega) (by omega) _ (by omega)) (runs_made [_] 1 rfl (by decide) _ (by omega)) (by rw [madeLD_len]; omega) (by rw [madeL_len]; omega)
    (baroom_tf _ _ _ _ hM0 (by omega) (by omega) (by omega)) (fun _ => banand_c _ _ (by omega) (by omega)) (fun _ => ?_) (by omega) (by omega) ?_ (by decide)
  · exact tail_runs_g 13 _ _ _ _ _ _ gd gs gz (does13_two _ _ _ _ hmk _ rfl meth_de_Nand call_de_Nand [_, _] ⟨13, 0, 1, 0, 0, false⟩ rfl rfl rfl)
  · have := List.length_filter_le (fun k => !sHas (nums (madeP (b.take 40) (b.take 40).length)) k) (dnums (madeW M (a.take 40) (a.take 40).length)); unfold sNand; omega

theorem nandm_two_f (x y : Nat) (a b : List Nat) (va vb : Value) (w : World) (hx : x < 65536) (hy : y < 65536) (h1 : Sl w va (u64s a)) (h2 : Sl w vb (u64s b)) (ha : ∀ x ∈ a, x < 2000) (hb : ∀ x ∈ b, x < 2000) :
    Calls Tryz.prog 8 #[.int .i64 13, .bool false, .bool true, .agg #[.int .u16 (x : Int), .int .u16 (y : Int)], va, vb, .func (.func 15) #[] #[], .func (.func 16) #[] #[]] w fun e w' => e = .returned (.bool true) ∧ Below w.heap.size w w' := by
  have ha' : ∀ x ∈ a, x < 18446744073709551616 := fun x hx => Nat.lt_trans (ha x hx) (by decide)
  have hb2 : ∀ x ∈ b, x < 18446744073709551616 := fun x hx => Nat.lt_trans (hb x hx) (by decide)
  obtain ⟨N, hN⟩ : ∃ N, N = 1 + y % 512 := ⟨_, rfl⟩
  obtain ⟨M, hM⟩ : ∃ M, M = (N + 63) / 64 := ⟨_, rfl⟩
  have hM0 : 0 < M := by omega
  have hM8 : M ≤ 8 := by omega
  have l1 : (a.take 40).length ≤ 40 := by rw [List.length_take]; omega
  have l2 : (b.take 40).length ≤ 40 := by rw [List.length_take]; omega
  have gd := good_madeW3 M hM0 hM8 (b.take 40)
  have nd := madeW_dlen3 M hM0 hM8 (b.take 40)
  obtain ⟨o1, k1⟩ := madeW_ok M hM0 (b.take 40) _ (Nat.le_refl _)
  have s1 := sok_made3 (a.take 40) (by omega)
  have gs : Good (.sp (madeP (a.take 40) (a.take 40).length)) (nums (madeP (a.take 40) (a.take 40).length)) := .inl ⟨_, rfl, s1, rfl⟩
  have ns : (nums (madeP (a.take 40) (a.take 40).length)).length ≤ 2560 := by have := cnt_le (madeP (a.take 40) (a.take 40).length); have := (madeP_ok (a.take 40) _ (Nat.le_refl _)).1.len; omega
  have hmk := makes_nand_sd (madeP (a.take 40) (a.take 40).length) (madeW M (b.take 40) (b.take 40).length) s1.ok s1.nz o1 (Nat.le_trans s1.len (by decide)) (by omega)
  have gz : Good (.sp (nandD (madeP (a.take 40) (a.take 40).length) (madeW M (b.take 40) (b.take 40).length))) (sNand (nums (madeP (a.take 40) (a.take 40).length)) (dnums (madeW M (b.take 40) (b.take 40).length))) := .inl ⟨_, rfl, sok_nandD s1 _, nandD_ok s1.ok o1⟩
  refine batwo_any 13 false true x y va vb _ _ call_nandmSpec call_nandmFits (madeL 0 (a.take 40)) (madeLD 1 N (64 * M) (b.take 40)) (madeA (a.take 40)) (madeA (b.take 40)) 0 M (nums (madeP (a.take 40) (a.take 40).length)) (dnums (madeW M (b.take 40) (b.take 40).length)) (sNand (nums (madeP (a.take 40) (a.take 40).length)) (dnums (madeW M (b.take 40) (b.take 40).length)))
    (.sp (madeP (a.take 40) (a.take 40).length)) (deA (madeW M (b.take 40) (b.take 40).length)) (.sp (nandD (madeP (a.take 40) (a.take 40).length) (madeW M (b.take 40) (b.take 40).length))) (decide ((nums (madeP (a.take 40) (a.take 40).length)).getLastD 0 < 64 * M)) w (fun w' hb' => made_c x va a 0 w' (h1.below rfl hb') ha' (by decide)) (fun w' hb' => made_cd y N M vb b 1 w' (h2.below rfl hb') hb2 (by decide) hy hN hM)
    (runs_made [] 0 rfl (by decide) _ (by omega)) (runs_madeD [_] 1 N M rfl (by decide) hM (by omega) (by omega) _ (by omega)) (by rw [madeL_len]; omega) (by rw [madeLD_len]; omega)
    (baroom_ft _ _ _ _ hM0 (by omega) (by omega) (by omega)) (fun _ => banand_c _ _ (by omega) (by omega)) (fun _ => ?_) (by omega) (by omega) ?_ (by decide)
  · exact tail_runs_g 13 _ _ _ _ _ _ gs gd gz (does13_two _ _ _ _ hmk _ rfl meth_sp_Nand call_sp_Nand [_, _] ⟨13, 0, 1, 0, 0, false⟩ rfl rfl rfl)
  · have := List.length_filter_le (fun k => !sHas (dnums (madeW M (b.take 40) (b.take 40).length)) k) (nums (madeP (a.take 40) (a.take 40).length)); unfold sNand; omega

theorem nandm_two (f : Bool) (x y : Nat) (a b : List Nat) (va vb : Value) (w : World) (hx : x < 65536) (hy : y < 65536) (h1 : Sl w va (u64s a)) (h2 : Sl w vb (u64s b)) (ha : ∀ x ∈ a, x < 2000) (hb : ∀ x ∈ b, x < 2000) :
    Calls Tryz.prog 8 #[.int .i64 13, .bool f, .bool (!f), .agg #[.int .u16 (x : Int), .int .u16 (y : Int)], va, vb, .func (.func 15) #[] #[], .func (.func 16) #[] #[]] w fun e w' => e = .returned (.bool true) ∧ Below w.heap.size w w' := by
  cases f
  · exact nandm_two_f x y a b va vb w hx hy h1 h2 ha hb
  · exact nandm_two_t x y a b va vb w hx hy h1 h2 ha hb

theorem lens5 {v : Value} {w : World} {ns : List Nat} (h : Sl w v (u64s ns)) : ∃ a n cap, v = .slice a n cap ∧ (n : Int) ≤ 9223372036854775807 ∧ n = ns.length := by
  obtain ⟨a, n, cap, rfl, hl, hc, hm, hr⟩ := h
  rw [u64s_len] at hl
  exact ⟨a, n, cap, rfl, by unfold maxLen at hm; omega, hl.symm⟩
set_option maxRecDepth 100000 in
set_option maxHeartbeats 4000000 in
theorem law_banandmixed (vs va vb : Value) (f : Bool) (w : World) (h0 : Pair16 w vs) (h1 : IsInts .u64 w va) (h2 : IsInts .u64 w vb) :
    Calls Tryz.prog 6 #[vs, va, vb, .bool f] w fun e w' => e = .returned (.bool true) ∧ Below w.heap.size w w' := by
  obtain ⟨x, y, rfl, hx, hy⟩ := h0
  obtain ⟨a, ha, hab⟩ := nats_of h1
  obtain ⟨b, hb, hbb⟩ := nats_of h2
  have hc : ∀ w' va' vb', Sl w' va' (u64s (small a)) → Sl w' vb' (u64s (small b)) → _ := fun w' va' vb' k1 k2 => nandm_two f x y (small a) (small b) va' vb' w' hx hy k1 k2 (small_lt a) (small_lt b)
  have HC := Lib.hid hc
  have hca : ∀ w', Below w.heap.size w w' → a.length ≤ 2147483647 → _ := fun w' hw hl => small_any va a w' (ha.below rfl hw) hl hab
  have hcb : ∀ w', Below w.heap.size w w' → b.length ≤ 2147483647 → _ := fun w' hw hl => small_any vb b w' (hb.below rfl hw) hl hbb
  have HCA := Lib.hid hca
  have HCB := Lib.hid hcb
  clear hca hcb
  obtain ⟨p, n, c, rfl, hn, hna⟩ := lens5 ha
  obtain ⟨q, m, d, rfl, hm, hmb⟩ := lens5 hb
  rw [← hna] at HCA
  rw [← hmb] at HCB
  have hb1 : Below w.heap.size w (w.alloc (.cells #[.int .u16 (x : Int), .int .u16 (y : Int)] 23)) := (Below.refl _ _).alloc (Nat.le_refl _) _
  have HB1 := Lib.hid hb1
  clear h1 h2 ha hb hab hbb hc hx hy hb1 hna hmb
  by_cases hz : (2147483647 : Int) < (n : Int)
  · go_enter Tryz.func6, Tryz.ntmps6
    go_wp2_with fail
    go_ret
    exact ⟨rfl, HB1.out⟩
  · by_cases hz2 : (2147483647 : Int) < (m : Int)
    · go_enter Tryz.func6, Tryz.ntmps6
      go_wp2_with fail
      go_ret
      exact ⟨rfl, HB1.out⟩
    · have hln : n ≤ 2147483647 := by omega
      have hlm : m ≤ 2147483647 := by omega
      have HLN := Lib.hid hln
      have HLM := Lib.hid hlm
      go_enter Tryz.func6, Tryz.ntmps6
      go_wp2_with fail
      have hb0 := HB1.out
      have hq := Blk.new w 23 #[.int .u16 (x : Int), .int .u16 (y : Int)]
      obtain ⟨w0, hw0⟩ : ∃ w0, w.alloc (.cells #[.int .u16 (x : Int), .int .u16 (y : Int)] 23) = w0 := ⟨_, rfl⟩
      rw [hw0] at hb0 hq ⊢
      have a0 := hq.cell 0 rfl
      have a1 := hq.cell 1 rfl
      have la := hq.lt
      have hself : Below w0.heap.size w0 w0 := Below.refl _ _
      have HB0 := Lib.hid hb0
      clear hw0 hb0 hq
      go_region_held3 (fun w' => Below w0.heap.size w0 w' ∧ w'.cell? ⟨w.heap.size, 0, none⟩ = some (.int .u16 (x : Int)) ∧ w'.cell? ⟨w.heap.size, 1, none⟩ = some (.int .u16 (y : Int)))
        ((first | exact ⟨hself.drew, a0, a1⟩ | exact ⟨hb7, c0, c1⟩ | exact ⟨hb6, c0, c1⟩ | exact ⟨hb5, c0, c1⟩ | exact ⟨by assumption, by assumption, by assumption⟩))
        (first
          | (go_at_call 14; (with_reducible refine Calls.mono (HCA.out _ (HB0.out.trans (Below.mono (by first | exact hself.drew | assumption) HB0.out.size)) HLN.out) ?_); rintro e w5 ⟨pa, ma, ca, rfl, hma, hsa, hba⟩; (try have HSB := Lib.hid (HSB.out.below rfl hba)); have HSA := Lib.hid hsa; have hb5 : Below w0.heap.size w0 w5 := (by first | exact hself.drew.trans (hba.mono hself.drew.size) | exact hb6.trans (hba.mono hb6.size)); have c0 := (hb5.cell (p := ⟨w.heap.size, 0, none⟩) la).trans a0; have c1 := (hb5.cell (p := ⟨w.heap.size, 1, none⟩) la).trans a1; clear hma hsa hba)
          | (go_at_call 14; (with_reducible refine Calls.mono (HCB.out _ (HB0.out.trans (Below.mono (by first | exact hself.drew | assumption) HB0.out.size)) HLM.out) ?_); rintro e w6 ⟨pb, mb, cb, rfl, hmb, hsb, hbb⟩; (try have HSA := Lib.hid (HSA.out.below rfl hbb)); have HSB := Lib.hid hsb; have hb6 : Below w0.heap.size w0 w6 := (by first | exact hself.drew.trans (hbb.mono hself.drew.size) | exact hb5.trans (hbb.mono hb5.size)); have c0 := (hb6.cell (p := ⟨w.heap.size, 0, none⟩) la).trans a0; have c1 := (hb6.cell (p := ⟨w.heap.size, 1, none⟩) la).trans a1; clear hmb hsb hbb)
          | (go_at_call 8; (with_reducible refine Calls.mono (HC.out _ _ _ HSA.out HSB.out) ?_); rintro e w7 ⟨rfl, hbt⟩; have hb7 : Below w0.heap.size w0 w7 := (by first | exact Below.trans hb6 (hbt.mono hb6.size) | exact Below.trans hb5 (hbt.mono hb5.size)); have c0 := (hb7.cell (p := ⟨w.heap.size, 0, none⟩) la).trans a0; have c1 := (hb7.cell (p := ⟨w.heap.size, 1, none⟩) la).trans a1; clear hbt)
          | fail)
      all_goals
        go_wp2_with fail
        go_ret
        exact ⟨rfl, HB0.out.trans (Below.mono (by assumption) HB0.out.size)⟩
end Go.Proofs.YtjnefgmoobbniaaGreat
