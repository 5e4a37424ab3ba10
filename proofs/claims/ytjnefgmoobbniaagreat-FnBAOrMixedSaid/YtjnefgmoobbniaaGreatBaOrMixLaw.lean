/- The law FnBAOrMixed: it returns true at every input (printed by gen_ba_mix.py). -/
import Derived.Test.YtjnefgmoobbniaaGreatBaOrSD
import Derived.Test.YtjnefgmoobbniaaGreatBaSmall
import Derived.Test.YtjnefgmoobbniaaGreatBaAndDeLaw
namespace Go.Proofs.YtjnefgmoobbniaaGreat
set_option linter.unusedVariables false
open Go.RowKit Bam

theorem good_madeW3 (M : Nat) (hM : 0 < M) (hM8 : M ≤ 8) (ms : List Nat) : Good (deA (madeW M ms ms.length)) (dnums (madeW M ms ms.length)) := by
  obtain ⟨h1, h2⟩ := madeW_ok M hM ms ms.length (Nat.le_refl _)
  exact .inr ⟨_, rfl, h1, by rw [h2]; omega, rfl⟩
theorem madeW_dlen3 (M : Nat) (hM : 0 < M) (hM8 : M ≤ 8) (ms : List Nat) : (dnums (madeW M ms ms.length)).length ≤ 512 := by
  obtain ⟨h1, h2⟩ := madeW_ok M hM ms ms.length (Nat.le_refl _)
  have := dnums_len (madeW M ms ms.length)
  omega
theorem sok_made3 (ms : List Nat) (h : ms.length ≤ 40) : SOk (madeP ms ms.length) := (madeP_ok ms ms.length (Nat.le_refl _)).1.sok (by omega)
theorem meth_de_Or (x : Value) (w : World) : (method 250 80 x "Or").run Tryz.prog w = .ok (64, x) w := by kernel_rfl
theorem call_de_Or (args : Array Value) (w : World) : (callFunc 64 args).run Tryz.prog w = .ok (.enter 64 args) w := by kernel_rfl
theorem meth_sp_Or (x : Value) (w : World) : (method 250 82 x "Or").run Tryz.prog w = .ok (107, x) w := by kernel_rfl
theorem call_sp_Or (args : Array Value) (w : World) : (callFunc 107 args).run Tryz.prog w = .ok (.enter 107 args) w := by kernel_rfl
theorem call_ormSpec (args : Array Value) (w : World) : (callFunc 17 args).run Tryz.prog w = .ok (.enter 17 args) w := by kernel_rfl
theorem call_ormFits (args : Array Value) (w : World) : (callFunc 10 args).run Tryz.prog w = .ok (.enter 10 args) w := by kernel_rfl
theorem assertA_de_sp (v : Value) (w : World) : (Instr.typeAssert (.iface 80 v) 57 82 true).run Tryz.prog w = .ok (.tuple #[.pointer none, .bool false]) w := by kernel_rfl
theorem assertA_de_de (v : Value) (w : World) : (Instr.typeAssert (.iface 80 v) 57 80 false).run Tryz.prog w = .ok v w := by kernel_rfl
theorem assertA_sp_de (v : Value) (w : World) : (Instr.typeAssert (.iface 82 v) 57 80 true).run Tryz.prog w = .ok (.tuple #[.pointer none, .bool false]) w := by kernel_rfl
theorem assertA_sp_sp (v : Value) (w : World) : (Instr.typeAssert (.iface 82 v) 57 82 false).run Tryz.prog w = .ok v w := by kernel_rfl

/-- the or of a sparse array and a dense one -/
def orZ (ps : Ps) (W : List Nat) : Arr := if dnums W = [] then .sp ps else if ps = [] then deA W else deA (wordsOf (max (capP ps) (64 * W.length)) (orw ps W))
theorem orZ_good {ps : Ps} {W S : List Nat} (h1 : SOk ps) (h2 : W64 W) (hl : W.length ≤ 100) (hc : capP ps ≤ 3000) (hS : Asc S) (hm : ∀ x, x ∈ S ↔ x ∈ nums ps ∨ x ∈ dnums W) : Good (orZ ps W) S := by
  unfold orZ
  by_cases hz : dnums W = []
  · rw [if_pos hz]
    refine .inl ⟨_, rfl, h1, asc_ext _ _ (asc_nums h1.ok) hS fun x => ?_⟩
    rw [hm, hz]; simp
  · rw [if_neg hz]
    by_cases hp : ps = []
    · rw [if_pos hp]
      refine .inr ⟨_, rfl, h2, by omega, asc_ext _ _ (asc_dnums h2) hS fun x => ?_⟩
      rw [hm, hp]; simp [nums]
    · rw [if_neg hp]
      refine .inr ⟨_, rfl, wordsOf_ok fun i _ => Nat.or_lt_two_pow (look_lt h1.ok i) (getD_lt h2 i), by rw [wordsOf_len]; omega, ?_⟩
      refine dOr_ok h1.ok h2 (fun q hq => ?_) (by omega) hS hm
      obtain ⟨b, hb, e⟩ := List.getElem_of_mem hq
      have := key_cap h1.ok hb
      rw [List.getD_eq_getElem?_getD, List.getElem?_eq_getElem hb] at this
      simp only [Option.getD_some] at this
      rw [e] at this; omega
theorem orsd_any (p q : Nat) (F G : List Nat) (ps : Ps) (W : List Nat) (w : World) (h : SpAt w p F ps) (k : DeW w q G W) (h1 : SOk ps) (h2 : W64 W) (h0 : 0 < W.length) (hl : W.length ≤ 100) (hc : capP ps ≤ 3000) :
    Calls Tryz.prog 81 #[.pointer (some ⟨p, 0, none⟩), .pointer (some ⟨q, 0, none⟩)] w fun e w' =>
      ∃ (r : Nat) (H : List Nat), e = .returned (.iface (tyOf (orZ ps W)) (.pointer (some ⟨r, 0, none⟩))) ∧ ArrAt w' r H (orZ ps W) ∧ (∀ x ∈ H, w.heap.size ≤ x) ∧ Below w.heap.size w w' := by
  unfold orZ
  by_cases hz : dnums W = []
  · rw [if_pos hz]
    exact orsd_none p q F G ps W w h k (Nat.le_trans h1.len (by decide)) (by omega) h0 hz
  · rw [if_neg hz]
    by_cases hp : ps = []
    · rw [if_pos hp]
      exact orsd_empty p q F G W w (hp ▸ h) k (by omega) h0 hz
    · rw [if_neg hp]
      exact orsd_big p q F G ps W _ w h k h1.ok h2 (Nat.le_trans h1.len (by decide)) (Nat.pos_of_ne_zero fun e => hp (List.eq_nil_of_length_eq_zero e)) hz rfl (by omega)
theorem keys_small (ms : List Nat) (h : ∀ x ∈ ms, x < 2000) : ∀ i, i ≤ ms.length → ∀ q ∈ madeP ms i, q.1 < 32
  | 0, _ => fun q hq => by simp [madeP] at hq
  | i + 1, hi => by
    intro q hq
    rw [madeP_succ ms i hi] at hq
    rcases setB_keys hq with e | e
    · have : ms.getD i 0 < 2000 := h _ (by rw [List.getD_eq_getElem?_getD, List.getElem?_eq_getElem hi]; exact List.getElem_mem _)
      rw [e]
      omega
    · exact keys_small ms h i (Nat.le_of_succ_le hi) q e
theorem cap_small {ps : Ps} (h : ∀ q ∈ ps, q.1 < 32) : capP ps ≤ 3000 := by
  unfold capP
  cases e : ps.getLast? with
  | none => simp
  | some q =>
    have := h q (List.mem_of_getLast? e)
    show (q.1 + 1) * 64 ≤ 3000
    omega

set_option maxRecDepth 100000 in
theorem makes_or_ds (ps : Ps) (W : List Nat) (h1 : SOk ps) (h2 : W64 W) (h0 : 0 < W.length) (hl : W.length ≤ 100) (hc : capP ps ≤ 3000) : Makes 64 (deA W) (.sp ps) (orZ ps W) := by
  intro w p F q G hp hq
  have ha := orsd_any q p G F ps W w hq hp h1 h2 h0 hl hc
  obtain ⟨Z, hZ⟩ : ∃ Z, orZ ps W = Z := ⟨_, rfl⟩
  rw [hZ] at ha ⊢
  obtain ⟨TZ, hTZ⟩ : ∃ T, tyOf Z = T := ⟨_, rfl⟩
  rw [hTZ] at ha ⊢
  have HA := Lib.hid ha
  show Calls Tryz.prog _ #[.pointer (some ⟨p, 0, none⟩), .iface 82 (.pointer (some ⟨q, 0, none⟩))] w _
  have hta := assertA_sp_de (.pointer (some ⟨q, 0, none⟩))
  have htb := assertA_sp_sp (.pointer (some ⟨q, 0, none⟩))
  clear ha hp hq hZ hTZ h1 h2 h0 hl hc
  go_enter Tryz.func64, Tryz.ntmps64
  go_wp2_with fail
  refine HA.out.mono ?_
  rintro e w' ⟨r, H, rfl, hs, hf, hb⟩
  have HS := Lib.hid hs
  have HF := Lib.hid hf
  have HB := Lib.hid hb
  clear hs hf hb
  go_wp2_with fail
  go_ret
  exact ⟨r, H, rfl, HS.out, HF.out, HB.out⟩

set_option maxRecDepth 100000 in
theorem makes_or_sd (ps : Ps) (W : List Nat) (h1 : SOk ps) (h2 : W64 W) (h0 : 0 < W.length) (hl : W.length ≤ 100) (hc : capP ps ≤ 3000) : Makes 107 (.sp ps) (deA W) (orZ ps W) := by
  intro w p F q G hp hq
  have ha := orsd_any p q F G ps W w hp hq h1 h2 h0 hl hc
  obtain ⟨Z, hZ⟩ : ∃ Z, orZ ps W = Z := ⟨_, rfl⟩
  rw [hZ] at ha ⊢
  obtain ⟨TZ, hTZ⟩ : ∃ T, tyOf Z = T := ⟨_, rfl⟩
  rw [hTZ] at ha ⊢
  have HA := Lib.hid ha
  show Calls Tryz.prog _ #[.pointer (some ⟨p, 0, none⟩), .iface 80 (.pointer (some ⟨q, 0, none⟩))] w _
  have hta := assertA_de_sp (.pointer (some ⟨q, 0, none⟩))
  have htb := assertA_de_de (.pointer (some ⟨q, 0, none⟩))
  clear ha hp hq hZ hTZ h1 h2 h0 hl hc
  go_enter Tryz.func107, Tryz.ntmps107
  go_wp2_with fail
  refine HA.out.mono ?_
  rintro e w' ⟨r, H, rfl, hs, hf, hb⟩
  have HS := Lib.hid hs
  have HF := Lib.hid hf
  have HB := Lib.hid hb
  clear hs hf hb
  go_wp2_with fail
  go_ret
  exact ⟨r, H, rfl, HS.out, HF.out, HB.out⟩

theorem orm_two_t (x y : Nat) (a b : List Nat) (va vb : Value) (w : World) (hx : x < 65536) (hy : y < 65536) (h1 : Sl w va (u64s a)) (h2 : Sl w vb (u64s b)) (ha : ∀ x ∈ a, x < 2000) (hb : ∀ x ∈ b, x < 2000) :
    Calls Tryz.prog 8 #[.int .i64 11, .bool true, .bool false, .agg #[.int .u16 (x : Int), .int .u16 (y : Int)], va, vb, .func (.func 17) #[] #[], .func (.func 10) #[] #[]] w fun e w' => e = .returned (.bool true) ∧ Below w.heap.size w w' := by
  have ha' : ∀ x ∈ a, x < 18446744073709551616 := fun x hx => Nat.lt_trans (ha x hx) (by decide)
  have hb2 : ∀ x ∈ b, x < 18446744073709551616 := fun x hx => Nat.lt_trans (hb x hx) (by decide)
  obtain ⟨N, hN⟩ : ∃ N, N = 1 + x % 512 := ⟨_, rfl⟩
  obtain ⟨M, hM⟩ : ∃ M, M = (N + 63) / 64 := ⟨_, rfl⟩
  have hM0 : 0 < M := by omega
  have hM8 : M ≤ 8 := by omega
  have l1 : (a.take 40).length ≤ 40 := by rw [List.length_take]; omega
  have l2 : (b.take 40).length ≤ 40 := by rw [List.length_take]; omega
  have gd := good_madeW3 M hM0 hM8 (a.take 40)
  have nd := madeW_dlen3 M hM0 hM8 (a.take 40)
  obtain ⟨o1, k1⟩ := madeW_ok M hM0 (a.take 40) _ (Nat.le_refl _)
  have s1 := sok_made3 (b.take 40) (by omega)
  have gs : Good (.sp (madeP (b.take 40) (b.take 40).length)) (nums (madeP (b.take 40) (b.take 40).length)) := .inl ⟨_, rfl, s1, rfl⟩
  have ns : (nums (madeP (b.take 40) (b.take 40).length)).length ≤ 2560 := by have := cnt_le (madeP (b.take 40) (b.take 40).length); have := (madeP_ok (b.take 40) _ (Nat.le_refl _)).1.len; omega
  have hkb := cap_small (keys_small (b.take 40) (fun x hx => hb x (List.mem_of_mem_take hx)) _ (Nat.le_refl _))
  have hmk := makes_or_ds (madeP (b.take 40) (b.take 40).length) (madeW M (a.take 40) (a.take 40).length) s1 o1 (by omega) (by omega) hkb
  have gz : Good (orZ (madeP (b.take 40) (b.take 40).length) (madeW M (a.take 40) (a.take 40).length)) (sOr (dnums (madeW M (a.take 40) (a.take 40).length)) (nums (madeP (b.take 40) (b.take 40).length))) := orZ_good s1 o1 (by omega) hkb (sOr_ok _ (asc_dnums o1)).1 (fun x => by rw [(sOr_ok _ (asc_dnums o1)).2]; exact Or.comm)
  refine batwo_any 11 true false x y va vb _ _ call_ormSpec call_ormFits (madeLD 0 N (64 * M) (a.take 40)) (madeL 1 (b.take 40)) (madeA (a.take 40)) (madeA (b.take 40)) M 0 (dnums (madeW M (a.take 40) (a.take 40).length)) (nums (madeP (b.take 40) (b.take 40).length)) (sOr (dnums (madeW M (a.take 40) (a.take 40).length)) (nums (madeP (b.take 40) (b.take 40).length)))
    (deA (madeW M (a.take 40) (a.take 40).length)) (.sp (madeP (b.take 40) (b.take 40).length)) (orZ (madeP (b.take 40) (b.take 40).length) (madeW M (a.take 40) (a.take 40).length)) true w (fun w' hb' => made_cd x N M va a 0 w' (h1.below rfl hb') ha' (by decide) hx hN hM) (fun w' hb' => made_c y vb b 1 w' (h2.below rfl hb') hb2 (by decide))
    (runs_madeD [] 0 N M rfl (by decide) hM (by omega) (by omega) _ (by omega)) (runs_made [_] 1 rfl (by decide) _ (by omega)) (by rw [madeLD_len]; omega) (by rw [madeL_len]; omega)
    (baany_c _ _ _ _ _ _) (fun _ => baor_c _ _ (by omega) (by omega)) (fun _ => ?_) (by omega) (by omega) ?_ (by decide)
  · exact tail_runs_g 11 _ _ _ _ _ _ gd gs gz (does11_two _ _ _ _ hmk _ rfl meth_de_Or call_de_Or [_, _] ⟨11, 0, 1, 0, 0, false⟩ rfl rfl rfl)
  · have := sOr_le (dnums (madeW M (a.take 40) (a.take 40).length)) (nums (madeP (b.take 40) (b.take 40).length)) ((nums (madeP (b.take 40) (b.take 40).length))).length; rw [List.take_length] at this; omega

theorem orm_two_f (x y : Nat) (a b : List Nat) (va vb : Value) (w : World) (hx : x < 65536) (hy : y < 65536) (h1 : Sl w va (u64s a)) (h2 : Sl w vb (u64s b)) (ha : ∀ x ∈ a, x < 2000) (hb : ∀ x ∈ b, x < 2000) :
    Calls Tryz.prog 8 #[.int .i64 11, .bool false, .bool true, .agg #[.int .u16 (x : Int), .int .u16 (y : Int)], va, vb, .func (.func 17) #[] #[], .func (.func 10) #[] #[]] w fun e w' => e = .returned (.bool true) ∧ Below w.heap.size w w' := by
  have ha' : ∀ x ∈ a, x < 18446744073709551616 := fun x hx => Nat.lt_trans (ha x hx) (by decide)
  have hb2 : ∀ x ∈ b, x < 18446744073709551616 := fun x hx => Nat.lt_trans (hb x hx) (by decide)
  obtain ⟨N, hN⟩ : ∃ N, N = 1 + y % 512 := ⟨_, rfl⟩
  obtain ⟨M, hM⟩ : ∃ M, M = (N + 63) / 64 := ⟨_, rfl⟩
  have hM0 : 0 < M := by omega
  have hM8 : M ≤ 8 := by omega
  have l1 : (a.take 40).length ≤ 40 := by rw [List.length_take]; omega
  have l2 : (b.take 40).length ≤ 40 := by rw [List.length_take]; omega
  have gd := good_madeW3 M hM0 hM8 (b.take 40)
  have nd := madeW_dlen3 M hM0 hM8 (b.take 40)
  obtain ⟨o1, k1⟩ := madeW_ok M hM0 (b.take 40) _ (Nat.le_refl _)
  have s1 := sok_made3 (a.take 40) (by omega)
  have gs : Good (.sp (madeP (a.take 40) (a.take 40).length)) (nums (madeP (a.take 40) (a.take 40).length)) := .inl ⟨_, rfl, s1, rfl⟩
  have ns : (nums (madeP (a.take 40) (a.take 40).length)).length ≤ 2560 := by have := cnt_le (madeP (a.take 40) (a.take 40).length); have := (madeP_ok (a.take 40) _ (Nat.le_refl _)).1.len; omega
  have hkb := cap_small (keys_small (a.take 40) (fun x hx => ha x (List.mem_of_mem_take hx)) _ (Nat.le_refl _))
  have hmk := makes_or_sd (madeP (a.take 40) (a.take 40).length) (madeW M (b.take 40) (b.take 40).length) s1 o1 (by omega) (by omega) hkb
  have gz : Good (orZ (madeP (a.take 40) (a.take 40).length) (madeW M (b.take 40) (b.take 40).length)) (sOr (nums (madeP (a.take 40) (a.take 40).length)) (dnums (madeW M (b.take 40) (b.take 40).length))) := orZ_good s1 o1 (by omega) hkb (sOr_ok _ (asc_nums s1.ok)).1 (fun x => by rw [(sOr_ok _ (asc_nums s1.ok)).2])
  refine batwo_any 11 false true x y va vb _ _ call_ormSpec call_ormFits (madeL 0 (a.take 40)) (madeLD 1 N (64 * M) (b.take 40)) (madeA (a.take 40)) (madeA (b.take 40)) 0 M (nums (madeP (a.take 40) (a.take 40).length)) (dnums (madeW M (b.take 40) (b.take 40).length)) (sOr (nums (madeP (a.take 40) (a.take 40).length)) (dnums (madeW M (b.take 40) (b.take 40).length)))
    (.sp (madeP (a.take 40) (a.take 40).length)) (deA (madeW M (b.take 40) (b.take 40).length)) (orZ (madeP (a.take 40) (a.take 40).length) (madeW M (b.take 40) (b.take 40).length)) true w (fun w' hb' => made_c x va a 0 w' (h1.below rfl hb') ha' (by decide)) (fun w' hb' => made_cd y N M vb b 1 w' (h2.below rfl hb') hb2 (by decide) hy hN hM)
    (runs_made [] 0 rfl (by decide) _ (by omega)) (runs_madeD [_] 1 N M rfl (by decide) hM (by omega) (by omega) _ (by omega)) (by rw [madeL_len]; omega) (by rw [madeLD_len]; omega)
    (baany_c _ _ _ _ _ _) (fun _ => baor_c _ _ (by omega) (by omega)) (fun _ => ?_) (by omega) (by omega) ?_ (by decide)
  · exact tail_runs_g 11 _ _ _ _ _ _ gs gd gz (does11_two _ _ _ _ hmk _ rfl meth_sp_Or call_sp_Or [_, _] ⟨11, 0, 1, 0, 0, false⟩ rfl rfl rfl)
  · have := sOr_le (nums (madeP (a.take 40) (a.take 40).length)) (dnums (madeW M (b.take 40) (b.take 40).length)) ((dnums (madeW M (b.take 40) (b.take 40).length))).length; rw [List.take_length] at this; omega

theorem orm_two (f : Bool) (x y : Nat) (a b : List Nat) (va vb : Value) (w : World) (hx : x < 65536) (hy : y < 65536) (h1 : Sl w va (u64s a)) (h2 : Sl w vb (u64s b)) (ha : ∀ x ∈ a, x < 2000) (hb : ∀ x ∈ b, x < 2000) :
    Calls Tryz.prog 8 #[.int .i64 11, .bool f, .bool (!f), .agg #[.int .u16 (x : Int), .int .u16 (y : Int)], va, vb, .func (.func 17) #[] #[], .func (.func 10) #[] #[]] w fun e w' => e = .returned (.bool true) ∧ Below w.heap.size w w' := by
  cases f
  · exact orm_two_f x y a b va vb w hx hy h1 h2 ha hb
  · exact orm_two_t x y a b va vb w hx hy h1 h2 ha hb

theorem lens5 {v : Value} {w : World} {ns : List Nat} (h : Sl w v (u64s ns)) : ∃ a n cap, v = .slice a n cap ∧ (n : Int) ≤ 9223372036854775807 ∧ n = ns.length := by
  obtain ⟨a, n, cap, rfl, hl, hc, hm, hr⟩ := h
  rw [u64s_len] at hl
  exact ⟨a, n, cap, rfl, by unfold maxLen at hm; omega, hl.symm⟩
set_option maxRecDepth 100000 in
set_option maxHeartbeats 4000000 in
theorem law_baormixed (vs va vb : Value) (f : Bool) (w : World) (h0 : Pair16 w vs) (h1 : IsInts .u64 w va) (h2 : IsInts .u64 w vb) :
    Calls Tryz.prog 7 #[vs, va, vb, .bool f] w fun e w' => e = .returned (.bool true) ∧ Below w.heap.size w w' := by
  obtain ⟨x, y, rfl, hx, hy⟩ := h0
  obtain ⟨a, ha, hab⟩ := nats_of h1
  obtain ⟨b, hb, hbb⟩ := nats_of h2
  have hc : ∀ w' va' vb', Sl w' va' (u64s (small a)) → Sl w' vb' (u64s (small b)) → _ := fun w' va' vb' k1 k2 => orm_two f x y (small a) (small b) va' vb' w' hx hy k1 k2 (small_lt a) (small_lt b)
  have HC := Lib.hid hc
  have hca : ∀ w', Below w.heap.size w w' → a.length ≤ 2147483647 → _ := fun w' hw hl => small_any va a w' (ha.below rfl hw) hl hab
  have hcb : ∀ w', Below w.heap.size w w' → b.length ≤ 2147483647 → _ := fun w' hw hl => small_any vb b w' (hb.below rfl hw) hl hbb
  have HCA := Lib.hid hca
  have HCB := Lib.hid hcb
  clear hca hcb
  obtain ⟨p, n, c, rfl, hn, hna⟩ := lens5 ha
  obtain ⟨q, m, d, rfl, hm, hmb⟩ := lens5 hb
  rw [← hna] at HCA
  rw [← hmb] at HCB
  have hb1 : Below w.heap.size w (w.alloc (.cells #[.int .u16 (x : Int), .int .u16 (y : Int)] 23)) := (Below.refl _ _).alloc (Nat.le_refl _) _
  have HB1 := Lib.hid hb1
  clear h1 h2 ha hb hab hbb hc hx hy hb1 hna hmb
  by_cases hz : (2147483647 : Int) < (n : Int)
  · go_enter Tryz.func7, Tryz.ntmps7
    go_wp2_with fail
    go_ret
    exact ⟨rfl, HB1.out⟩
  · by_cases hz2 : (2147483647 : Int) < (m : Int)
    · go_enter Tryz.func7, Tryz.ntmps7
      go_wp2_with fail
      go_ret
      exact ⟨rfl, HB1.out⟩
    · have hln : n ≤ 2147483647 := by omega
      have hlm : m ≤ 2147483647 := by omega
      have HLN := Lib.hid hln
      have HLM := Lib.hid hlm
      go_enter Tryz.func7, Tryz.ntmps7
      go_wp2_with fail
      have hb0 := HB1.out
      have hq := Blk.new w 23 #[.int .u16 (x : Int), .int .u16 (y : Int)]
      obtain ⟨w0, hw0⟩ : ∃ w0, w.alloc (.cells #[.int .u16 (x : Int), .int .u16 (y : Int)] 23) = w0 := ⟨_, rfl⟩
      rw [hw0] at hb0 hq ⊢
      have a0 := hq.cell 0 rfl
      have a1 := hq.cell 1 rfl
      have la := hq.lt
      have hself : Below w0.heap.size w0 w0 := Below.refl _ _
      have HB0 := Lib.hid hb0
      clear hw0 hb0 hq
      go_region_held3 (fun w' => Below w0.heap.size w0 w' ∧ w'.cell? ⟨w.heap.size, 0, none⟩ = some (.int .u16 (x : Int)) ∧ w'.cell? ⟨w.heap.size, 1, none⟩ = some (.int .u16 (y : Int)))
        ((first | exact ⟨hself.drew, a0, a1⟩ | exact ⟨hb7, c0, c1⟩ | exact ⟨hb6, c0, c1⟩ | exact ⟨hb5, c0, c1⟩ | exact ⟨by assumption, by assumption, by assumption⟩))
        (first
          | (go_at_call 14; (with_reducible refine Calls.mono (HCA.out _ (HB0.out.trans (Below.mono (by first | exact hself.drew | assumption) HB0.out.size)) HLN.out) ?_); rintro e w5 ⟨pa, ma, ca, rfl, hma, hsa, hba⟩; (try have HSB := Lib.hid (HSB.out.below rfl hba)); have HSA := Lib.hid hsa; have hb5 : Below w0.heap.size w0 w5 := (by first | exact hself.drew.trans (hba.mono hself.drew.size) | exact hb6.trans (hba.mono hb6.size)); have c0 := (hb5.cell (p := ⟨w.heap.size, 0, none⟩) la).trans a0; have c1 := (hb5.cell (p := ⟨w.heap.size, 1, none⟩) la).trans a1; clear hma hsa hba)
          | (go_at_call 14; (with_reducible refine Calls.mono (HCB.out _ (HB0.out.trans (Below.mono (by first | exact hself.drew | assumption) HB0.out.size)) HLM.out) ?_); rintro e w6 ⟨pb, mb, cb, rfl, hmb, hsb, hbb⟩; (try have HSA := Lib.hid (HSA.out.below rfl hbb)); have HSB := Lib.hid hsb; have hb6 : Below w0.heap.size w0 w6 := (by first | exact hself.drew.trans (hbb.mono hself.drew.size) | exact hb5.trans (hbb.mono hb5.size)); have c0 := (hb6.cell (p := ⟨w.heap.size, 0, none⟩) la).trans a0; have c1 := (hb6.cell (p := ⟨w.heap.size, 1, none⟩) la).trans a1; clear hmb hsb hbb)
          | (go_at_call 8; (with_reducible refine Calls.mono (HC.out _ _ _ HSA.out HSB.out) ?_); rintro e w7 ⟨rfl, hbt⟩; have hb7 : Below w0.heap.size w0 w7 := (by first | exact Below.trans hb6 (hbt.mono hb6.size) | exact Below.trans hb5 (hbt.mono hb5.size)); have c0 := (hb7.cell (p := ⟨w.heap.size, 0, none⟩) la).trans a0; have c1 := (hb7.cell (p := ⟨w.heap.size, 1, none⟩) la).trans a1; clear hbt)
          | fail)
      all_goals
        go_wp2_with fail
        go_ret
        exact ⟨rfl, HB0.out.trans (Below.mono (by assumption) HB0.out.size)⟩
end Go.Proofs.YtjnefgmoobbniaaGreat
