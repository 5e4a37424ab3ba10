/- Walk of Equals of two dense arrays, and of the iterator over a dense array's blocks. -/
import Derived.Test.YtjnefgmoobbniaaBaAndDe
import Derived.Deep.QuietTactic
import Derived.BigQuiet
namespace Go.Proofs.Ytjnefgmoobbniaa
set_option linter.unusedVariables false
open Go.RowKit Bam

def DItAt (w : World) (q p : Nat) (i : Int) (e : Nat) : Prop := Blk w q 134 #[.int .i64 i, .int .u64 (e : Int), .pointer (some ⟨p, 0, none⟩)]

set_option maxRecDepth 100000 in
theorem newditer_any (p : Nat) (F W : List Nat) (lo hi : Nat) (any : Bool) (w : World) (h : DeAt w p F W lo hi any) (hl : lo ≤ 1000000) (hh : hi ≤ 1000000) :
    Calls Try.prog 69 #[.pointer (some ⟨p, 0, none⟩)] w fun e w' => e = .returned (.pointer (some ⟨w.heap.size, 0, none⟩)) ∧ DItAt w' w.heap.size p (((lo / 64 : Nat) : Int) - 1) (hi / 64) ∧ Below w.heap.size w w' := by
  obtain ⟨a, c, c0, c1, c2, c3, -⟩ := h.cells
  have hr1 := idxrem_any lo (by omega) w
  have hr2 := idxrem_any hi (by omega) w
  obtain ⟨A, hA⟩ : ∃ A, lo / 64 = A := ⟨_, rfl⟩
  obtain ⟨B, hB⟩ : ∃ B, hi / 64 = B := ⟨_, rfl⟩
  obtain ⟨C, hC⟩ : ∃ A, lo % 64 = A := ⟨_, rfl⟩
  obtain ⟨D, hD⟩ : ∃ B, hi % 64 = B := ⟨_, rfl⟩
  rw [hA, hC] at hr1
  rw [hB, hD] at hr2
  rw [hA, hB]
  have HR1 := Lib.hid hr1
  have HR2 := Lib.hid hr2
  have k1 : IntKind.i64.wrap (A : Int) = (A : Int) := IntWalk.i64_in _ (by omega)
  have k2 : wrap64 ((A : Int) - 1) = (A : Int) - 1 := by unfold wrap64; omega
  have HK2 := Lib.hid k2
  clear h hr1 hr2 hA hB hC hD k2
  go_enter Try.func69, Try.ntmps69
  go_wp2_with fail
  refine HR2.out.mono ?_
  rintro e w' ⟨rfl, rfl⟩
  go_wp2_with fail
  refine HR1.out.mono ?_
  rintro e w' ⟨rfl, rfl⟩
  go_wp2_with fail
  try rw [HK2.out]
  go_ret
  exact ⟨rfl, Blk.new w _ _, (Below.refl _ _).alloc (Nat.le_refl _) _⟩
set_option maxRecDepth 100000 in
theorem blocks_de (p : Nat) (F W : List Nat) (lo hi : Nat) (any : Bool) (w : World) (h : DeAt w p F W lo hi any) (hl : lo ≤ 1000000) (hh : hi ≤ 1000000) :
    Calls Try.prog 53 #[.pointer (some ⟨p, 0, none⟩)] w fun e w' => e = .returned (.iface 117 (.pointer (some ⟨w.heap.size, 0, none⟩))) ∧ DItAt w' w.heap.size p (((lo / 64 : Nat) : Int) - 1) (hi / 64) ∧ Below w.heap.size w w' := by
  have hc := newditer_any p F W lo hi any w h hl hh
  have HC := Lib.hid hc
  clear hc h hl hh
  go_enter Try.func53, Try.ntmps53
  go_wp2_with fail
  refine HC.out.mono ?_
  rintro e w1 ⟨rfl, h1, h2⟩
  have H1 := Lib.hid h1
  have H2 := Lib.hid h2
  clear h1 h2
  go_wp2_with fail
  go_ret
  exact ⟨rfl, H1.out, H2.out⟩

set_option maxHeartbeats 1000000 in
theorem next_de (q p : Nat) (I : Int) (j e : Nat) (w : World) (hq : DItAt w q p I e) (hI : I + 1 = (j : Int)) (hj : j ≤ 100000) (he : e ≤ 1000000) :
    Calls Try.prog 126 #[.pointer (some ⟨q, 0, none⟩)] w fun e' w' => e' = .returned (.bool (decide (j ≤ e))) ∧ ∃ nq, w' = (w.setCell ⟨q, 0, none⟩ (.int .i64 (j : Int))).drewN nq := by
  have c0 : w.cell? ⟨q, 0, none⟩ = some (.int .i64 I) := hq.cell 0 rfl
  have f0 : w.frozen? ⟨q, 0, none⟩ = false := hq.free 0
  have hq2 := hq.set 0 (.int .i64 (j : Int))
  have d0 : (w.setCell ⟨q, 0, none⟩ (.int .i64 (j : Int))).cell? ⟨q, 0, none⟩ = some (.int .i64 (j : Int)) := hq2.cell 0 rfl
  have d1 : (w.setCell ⟨q, 0, none⟩ (.int .i64 (j : Int))).cell? ⟨q, 1, none⟩ = some (.int .u64 (e : Int)) := hq2.cell 1 rfl
  have hIw : IntKind.i64.wrap (I + 1) = (j : Int) := by rw [hI, IntWalk.i64_in _ (by omega)]
  have hjw : IntKind.u64.wrap (j : Int) = (j : Int) := u64wd j (by omega)
  have hI1 : -1 ≤ I := by omega
  have hI2 : I ≤ 100000 := by omega
  have HI := Lib.hid hI
  clear hq hq2 hI
  go_enter Try.func126, Try.ntmps126
  go_wp2_with fail
  try rw [hIw]
  go_quiet (fail)
  go_wp2_with fail
  go_ret
  exact ⟨ret_bool (by rw [Bool.eq_iff_iff]), _, rfl⟩

set_option maxHeartbeats 1000000 in
theorem value_de (q p : Nat) (F W : List Nat) (lo hi : Nat) (any : Bool) (i e : Nat) (w : World) (h : DeAt w p F W lo hi any) (hq : DItAt w q p (i : Int) e) (hi' : i < W.length) (hn : W.length ≤ 100000) :
    Calls Try.prog 127 #[.pointer (some ⟨q, 0, none⟩)] w fun e w' => e = .returned (.tuple #[.int .u64 (i : Int), .int .u64 ((W.getD i 0 : Nat) : Int)]) ∧ ∃ nq, w' = w.drewN nq := by
  obtain ⟨a, c, h0, -, -, -, hcells⟩ := h.cells
  obtain ⟨g, rfl, hcl⟩ := hcells (by omega)
  have k1 := hcl i hi'
  have c0 : w.cell? ⟨q, 0, none⟩ = some (.int .i64 (i : Int)) := hq.cell 0 rfl
  have c2 : w.cell? ⟨q, 2, none⟩ = some (.pointer (some ⟨p, 0, none⟩)) := hq.cell 2 rfl
  obtain ⟨n, hN⟩ : ∃ n, n = W.length := ⟨_, rfl⟩
  rw [← hN] at h0 hi' hn
  obtain ⟨X, hX⟩ : ∃ X, W.getD i 0 = X := ⟨_, rfl⟩
  rw [hX] at k1 ⊢
  have e1 : (i : Int) < (n : Int) := by omega
  have e2 : (0 : Int) ≤ (i : Int) := by omega
  have hiw : IntKind.u64.wrap (i : Int) = (i : Int) := u64wd i (by omega)
  clear hcells hcl h hq hX hN
  go_enter Try.func127, Try.ntmps127
  go_wp2_with fail
  go_quiet (fail)
  go_wp2_with fail
  go_ret2
  exact ⟨rfl, _, rfl⟩

theorem words_eq {W V : List Nat} (h1 : W64 W) (h2 : W64 V) (h : dnums W = dnums V) (i : Nat) : W.getD i 0 = V.getD i 0 := by
  apply Nat.eq_of_testBit_eq
  intro t
  by_cases ht : t < 64
  · have e1 := mem_dnums h1 (i * 64 + t)
    have e2 := mem_dnums h2 (i * 64 + t)
    rw [show (i * 64 + t) / 64 = i by omega, show (i * 64 + t) % 64 = t by omega] at e1 e2
    rw [Bool.eq_iff_iff, ← e1, ← e2, h]
  · rw [Nat.testBit_lt_two_pow (Nat.lt_of_lt_of_le (getD_lt h1 i) (Nat.pow_le_pow_right (by decide) (by omega))), Nat.testBit_lt_two_pow (Nat.lt_of_lt_of_le (getD_lt h2 i) (Nat.pow_le_pow_right (by decide) (by omega)))]
theorem words_low {V : List Nat} (h : W64 V) {i : Nat} (hi : i < loW V / 64) : V.getD i 0 = 0 := by
  apply Nat.eq_of_testBit_eq
  intro t
  rw [Nat.zero_testBit]
  by_cases ht : t < 64
  · cases hb : (V.getD i 0).testBit t with
    | false => rfl
    | true =>
      have e : i * 64 + t ∈ dnums V := by rw [mem_dnums h, show (i * 64 + t) / 64 = i by omega, show (i * 64 + t) % 64 = t by omega]; exact hb
      have := head_le (asc_dnums h) e
      unfold loW at hi
      omega
  · exact Nat.testBit_lt_two_pow (Nat.lt_of_lt_of_le (getD_lt h i) (Nat.pow_le_pow_right (by decide) (by omega)))
theorem eqde_iff {W V : List Nat} (h1 : W64 W) (h2 : W64 V) : dnums W = dnums V ↔ (∀ i, i < hiW V / 64 + 1 → W.getD i 0 = V.getD i 0) ∧ hiW W / 64 < hiW V / 64 + 1 := by
  constructor
  · intro h
    refine ⟨fun i _ => words_eq h1 h2 h i, ?_⟩
    unfold hiW
    rw [h]
    omega
  · rintro ⟨ha, hb⟩
    apply asc_ext _ _ (asc_dnums h1) (asc_dnums h2)
    intro k
    by_cases hk : k / 64 < hiW V / 64 + 1
    · rw [mem_dnums h1, mem_dnums h2, ha _ hk]
    · constructor
      · intro hm
        have := le_last (asc_dnums h1) hm
        unfold hiW at hb hk
        omega
      · intro hm
        have := le_last (asc_dnums h2) hm
        unfold hiW at hk
        omega

theorem meth_de_Capacity4 (x : Value) (w : World) : (method 254 84 x "Capacity").run Try.prog w = .ok (54, x) w := by kernel_rfl
theorem meth_de_Blocks4 (x : Value) (w : World) : (method 254 84 x "Blocks").run Try.prog w = .ok (53, x) w := by kernel_rfl
theorem meth_dit_Next (x : Value) (w : World) : (method 254 117 x "Next").run Try.prog w = .ok (126, x) w := by kernel_rfl
theorem meth_dit_Value (x : Value) (w : World) : (method 254 117 x "Value").run Try.prog w = .ok (127, x) w := by kernel_rfl

def EqD (W V : List Nat) (s e it q : Nat) (w1 : World) (k : Nat) (s5 : Value) (wr : World) : Prop :=
  ∃ (j σ : Nat) (I : Int), s5 = .int .u64 (σ : Int) ∧ I + 1 = (j : Int) ∧ s ≤ j ∧ j + k = e + 1 ∧ (σ = j ∨ (σ = 0 ∧ j = s ∧ 0 < s)) ∧ DItAt wr it q I e ∧ (∀ i, i < σ → W.getD i 0 = V.getD i 0) ∧ Fr [it] [it] w1 wr
def EqI (W V : List Nat) (s : Nat) (w1 : World) (k : Nat) (s9 : Value) (wr : World) : Prop :=
  ∃ i : Nat, s9 = .int .u64 (i : Int) ∧ i + k = s ∧ (∀ t, t < i → W.getD t 0 = V.getD t 0) ∧ wr = w1

set_option maxRecDepth 100000 in
set_option maxHeartbeats 8000000 in
theorem eqde_any (p q : Nat) (F G W V : List Nat) (w : World) (h : DeW w p F W) (k : DeW w q G V) (ho1 : W64 W) (ho2 : W64 V) (hl : W.length = V.length) (h0 : 0 < V.length) (hn : V.length ≤ 1000) :
    Calls Try.prog 57 #[.pointer (some ⟨p, 0, none⟩), .iface 84 (.pointer (some ⟨q, 0, none⟩))] w fun e w' =>
      ∃ b : Bool, e = .returned (.bool b) ∧ (b = true ↔ dnums W = dnums V) ∧ Below w.heap.size w w' := by
  have hc1 := meth_de_Capacity4 (.pointer (some ⟨q, 0, none⟩))
  have hc2 := meth_de_Blocks4 (.pointer (some ⟨q, 0, none⟩))
  have hcap := capacity_de q G V _ _ _ w k (by omega)
  have hhiV : hiW V < 64 * V.length := by
    rcases hi_lt ho2 with e | e
    · exact e
    · rw [(lo_nil e).2.1]; omega
  have hhiW : hiW W < 64 * V.length := by
    rw [← hl]
    rcases hi_lt ho1 with e | e
    · exact e
    · rw [(lo_nil e).2.1]; omega
  have hlohi : loW V ≤ hiW V := by
    cases ha : anyW V with
    | true => exact lo_le_hi ho2 ha
    | false =>
      have e : dnums V = [] := by unfold anyW at ha; simpa using ha
      rw [(lo_nil e).1, (lo_nil e).2.1]; exact Nat.le_refl _
  have hbl := blocks_de q G V _ _ _ w k (by omega) (by omega)
  have hiff := eqde_iff ho1 ho2
  have hlow : ∀ i, i < loW V / 64 → V.getD i 0 = 0 := fun i hi => words_low ho2 hi
  have hwe : dnums W = dnums V → ∀ i, W.getD i 0 = V.getD i 0 := fun e i => words_eq ho1 ho2 e i
  have hix := fun w' => idxrem_any (hiW W) (by omega) w'
  obtain ⟨s, hs⟩ : ∃ s, loW V / 64 = s := ⟨_, rfl⟩
  obtain ⟨e, he⟩ : ∃ e, hiW V / 64 = e := ⟨_, rfl⟩
  obtain ⟨l, hle⟩ : ∃ e, hiW W / 64 = e := ⟨_, rfl⟩
  obtain ⟨r, hre⟩ : ∃ e, hiW W % 64 = e := ⟨_, rfl⟩
  have hse : s ≤ e := by omega
  have hen : e < V.length := by omega
  have hln : l < V.length := by omega
  rw [hs, he] at hbl
  rw [he, hle] at hiff
  rw [hs] at hlow
  rw [hle, hre] at hix
  obtain ⟨C, hC⟩ : ∃ C, 64 * V.length = C := ⟨_, rfl⟩
  rw [hC] at hcap
  have t0 : ((C : Int) == 0) = false := by rw [beq_eq_false_iff_ne]; omega
  have HCAP := Lib.hid hcap
  have HP : Hid (DeW w p F W) := Lib.hid h
  have HQ : Hid (DeW w q G V) := Lib.hid k
  have HBL := Lib.hid hbl
  have HIFF := Lib.hid hiff
  have HLOW := Lib.hid hlow
  have HWE := Lib.hid hwe
  have HIX := Lib.hid hix
  obtain ⟨n, hN⟩ : ∃ n, V.length = n := ⟨_, rfl⟩
  rw [hN] at hn h0 hen hln hl
  have HN := Lib.hid hN
  have HL := Lib.hid hl
  clear h k ho1 ho2 hcap hC hN hl hhiV hhiW hlohi hbl hiff hlow hwe hix hs he hle hre
  go_enter Try.func57, Try.ntmps57
  go_wp2_with fail
  refine HCAP.out.mono ?_
  rintro e1 w' ⟨rfl, rfl⟩
  go_wp2_with fail
  refine HCAP.out.mono ?_
  rintro e1 w' ⟨rfl, rfl⟩
  go_wp2_with fail
  refine HBL.out.mono ?_
  rintro e1 w1 ⟨rfl, hit, hb1⟩
  obtain ⟨it, hIT⟩ : ∃ it, w.heap.size = it := ⟨_, rfl⟩
  have HITW := Lib.hid hIT
  rw [hIT] at hit ⊢
  have HIT := Lib.hid hit
  have HB1 := Lib.hid hb1
  have HP1 : Hid (DeAt w1 p F W (loW W) (hiW W) (anyW W)) := Lib.hid (DeAt.frame HP.out (Fr.of_below [] hb1) (fun k _ h => by simp at h))
  have HQ1 : Hid (DeAt w1 q G V (loW V) (hiW V) (anyW V)) := Lib.hid (DeAt.frame HQ.out (Fr.of_below [] hb1) (fun k _ h => by simp at h))
  have hlp := DeAt.lt HP.out
  have hlq := DeAt.lt HQ.out
  have HLP := Lib.hid (show ∀ x ∈ F, x ∉ [it] from fun x hx hx2 => by rw [List.mem_singleton] at hx2; have := hlp x hx; omega)
  have HLQ := Lib.hid (show ∀ x ∈ G, x ∉ [it] from fun x hx hx2 => by rw [List.mem_singleton] at hx2; have := hlq x hx; omega)
  have hn1 := meth_dit_Next (.pointer (some ⟨it, 0, none⟩))
  have hn2 := meth_dit_Value (.pointer (some ⟨it, 0, none⟩))
  clear hit hb1 hIT hlp hlq t0 hc1 hc2
  go_wp2_with fail
  go_loopg [5] (e + 1 - s) (fun k s5 wr => EqD W V s e it q w1 k s5 wr)
  case atStart =>
    rcases Nat.eq_zero_or_pos s with z | z
    · exact ⟨s, 0, _, rfl, by omega, Nat.le_refl _, by omega, .inl z.symm, HIT.out, fun i hi => absurd hi (Nat.not_lt_zero _), Fr.refl _ _⟩
    · exact ⟨s, 0, _, rfl, by omega, Nat.le_refl _, by omega, .inr ⟨rfl, rfl, z⟩, HIT.out, fun i hi => absurd hi (Nat.not_lt_zero _), Fr.refl _ _⟩
  case round =>
    obtain ⟨j, σ, I, rfl, hI, hsj, hjk, hσ, hit, hall, hfr⟩ := hrel
    have hnx := next_de it q I j e wr hit hI (by omega) (by omega)
    have HALL := Lib.hid hall
    have HFR := Lib.hid hfr
    have HITR := Lib.hid hit
    clear hI hit hall hfr
    by_cases hj : j ≤ e
    · rw [decide_eq_true hj] at hnx
      have HNX := Lib.hid hnx
      clear hnx
      cases gk with
      | zero => omega
      | succ k =>
        go_wp2_with fail
        refine HNX.out.mono ?_
        rintro e1 w2 ⟨rfl, nq2, rfl⟩
        have hf2 : Fr [it] [it] wr ((wr.setCell ⟨it, 0, none⟩ (.int .i64 (j : Int))).drewN nq2) := (Fr.store wr (F := [it]) (a := ⟨it, 0, none⟩) (List.mem_singleton.2 rfl) _).drewN nq2
        have hit2 : DItAt ((wr.setCell ⟨it, 0, none⟩ (.int .i64 (j : Int))).drewN nq2) it q (j : Int) e := Blk.set HITR.out 0 (.int .i64 (j : Int))
        have hfr2 := HFR.out.trans hf2
        obtain ⟨w2, hw2⟩ : ∃ w2, (wr.setCell ⟨it, 0, none⟩ (.int .i64 (j : Int))).drewN nq2 = w2 := ⟨_, rfl⟩
        rw [hw2] at hit2 hfr2 ⊢
        have hq2 := HQ1.out.frame hfr2 HLQ.out
        have hp2 := HP1.out.frame hfr2 HLP.out
        have hval := value_de it q G V _ _ _ j e w2 hq2 hit2 (by rw [HN.out]; omega) (by rw [HN.out]; omega)
        obtain ⟨B, hB⟩ : ∃ B, V.getD j 0 = B := ⟨_, rfl⟩
        rw [hB] at hval
        have HBV := Lib.hid hB
        have HV := Lib.hid hval
        have HIT2 := Lib.hid hit2
        have hb : Below w.heap.size w w2 := HB1.out.trans (hfr2.below (fun k hk => by rw [List.mem_singleton] at hk; have := HITW.out; omega) HB1.out.size)
        have HFR2 := Lib.hid hfr2
        have HB2 := Lib.hid hb
        have HP2 := Lib.hid hp2
        clear hf2 hit2 hq2 hfr2 hw2 hval hp2 hb hB
        go_wp2_with fail
        refine HV.out.mono ?_
        rintro e1 w3 ⟨rfl, nq3, rfl⟩
        have hb3 := below_drewN HB2.out nq3
        have hfr3 := HFR2.out.drewN nq3
        have hit3 : DItAt (w2.drewN nq3) it q (j : Int) e := HIT2.out
        have hp3 := HP2.out.drewN nq3
        obtain ⟨w3, hw3⟩ : ∃ w3, w2.drewN nq3 = w3 := ⟨_, rfl⟩
        rw [hw3] at hb3 hfr3 hit3 hp3 ⊢
        obtain ⟨a, c, p0, -, -, -, hcl⟩ := hp3.cells
        rw [HL.out] at p0 hcl
        obtain ⟨g, rfl, hcl2⟩ := hcl (by omega)
        have HCL := Lib.hid hcl2
        have HB3 := Lib.hid hb3
        have HFR3 := Lib.hid hfr3
        have HIT3 := Lib.hid hit3
        clear hw3 hb3 hfr3 hit3 hp3 hcl hcl2
        have uj := HCL.out j (by omega)
        obtain ⟨A, hA⟩ : ∃ A, W.getD j 0 = A := ⟨_, rfl⟩
        rw [hA] at uj
        have HAW := Lib.hid hA
        have j1 : (j : Int) < (n : Int) := by omega
        have j2 : (0 : Int) ≤ (j : Int) := by omega
        have j3 : j < n := by omega
        have hjw : IntKind.u64.wrap ((j : Int) + 1) = ((j + 1 : Nat) : Int) := by rw [show (j : Int) + 1 = ((j + 1 : Nat) : Int) by omega]; exact u64wd _ (by omega)
        have hbe := bequals_any A B w3
        have HBE := Lib.hid hbe
        clear hA hbe
        rcases hσ with rfl | ⟨rfl, rfl, hs0⟩
        · have t1 : decide (σ < σ) = false := by rw [decide_eq_false_iff_not]; omega
          by_cases hab : A = B
          · have hbe := HBE.out
            rw [decide_eq_true hab] at hbe
            have HBE2 := Lib.hid hbe
            have HAB := Lib.hid hab
            clear hbe hab
            go_wp2_with fail
            refine HBE2.out.mono ?_
            rintro e1 w4 ⟨rfl, rfl⟩
            go_wp2_with fail
            go_roundg k
            case measure => omega
            case rel => exact ⟨σ + 1, σ + 1, (σ : Int), by go_num, by omega, by omega, by omega, .inl rfl, HIT3.out, fun i hi => (by
              by_cases e : i = σ
              · rw [e, HAW.out, HBV.out]; exact HAB.out
              · exact HALL.out i (by omega)), HFR3.out⟩
          · have hbe := HBE.out
            rw [decide_eq_false hab] at hbe
            have HBE2 := Lib.hid hbe
            have HAB := Lib.hid hab
            clear hbe hab
            go_wp2_with fail
            refine HBE2.out.mono ?_
            rintro e1 w4 ⟨rfl, rfl⟩
            go_wp2_with fail
            go_ret
            exact ⟨false, rfl, ⟨(fun h => by cases h), fun h => absurd (by have := HWE.out h σ; rw [HAW.out, HBV.out] at this; exact this) HAB.out⟩, HB3.out⟩
        · have t1 : decide (0 < j) = true := by rw [decide_eq_true_iff]; exact hs0
          go_wp2_with fail
          go_loopg [9] j (fun k s9 wr => EqI W V j w3 k s9 wr)
          case atStart => exact ⟨0, rfl, by omega, fun t ht => absurd ht (Nat.not_lt_zero _), rfl⟩
          case round =>
            obtain ⟨i, rfl, hik, hal, rfl⟩ := hrel
            have HAL := Lib.hid hal
            clear hal
            by_cases hi : i < j
            · have t2 : decide (i < j) = true := by rw [decide_eq_true_iff]; exact hi
              have ui := HCL.out i (by omega)
              have hv0 := HLOW.out i hi
              obtain ⟨X, hX⟩ : ∃ X, W.getD i 0 = X := ⟨_, rfl⟩
              rw [hX] at ui
              have HXW := Lib.hid hX
              have HV0 := Lib.hid hv0
              have i1 : (i : Int) < (n : Int) := by omega
              have i2 : (0 : Int) ≤ (i : Int) := by omega
              have i3 : i < n := by omega
              have hiw : IntKind.u64.wrap ((i : Int) + 1) = ((i + 1 : Nat) : Int) := by rw [show (i : Int) + 1 = ((i + 1 : Nat) : Int) by omega]; exact u64wd _ (by omega)
              clear hX hv0
              cases gk with
              | zero => omega
              | succ m =>
                by_cases hx : 0 < X
                · have t3 : decide (0 < X) = true := by rw [decide_eq_true_iff]; exact hx
                  have HX := Lib.hid hx
                  clear hx
                  go_wp2_with fail
                  go_ret
                  exact ⟨false, rfl, ⟨(fun h => by cases h), fun h => absurd (by have := HWE.out h i; rw [HXW.out, HV0.out] at this; exact this) (Nat.ne_of_gt HX.out)⟩, HB3.out⟩
                · have t3 : decide (0 < X) = false := by rw [decide_eq_false_iff_not]; exact hx
                  have HX := Lib.hid hx
                  clear hx
                  go_wp2_with fail
                  go_roundg m
                  case measure => omega
                  case rel => exact ⟨i + 1, by go_num, by omega, fun t ht => (by
                    by_cases e : t = i
                    · rw [e, HXW.out, HV0.out]; have := HX.out; omega
                    · exact HAL.out t (by omega)), rfl⟩
            · obtain rfl : i = j := by omega
              have t2 : decide (i < i) = false := by rw [decide_eq_false_iff_not]; omega
              by_cases hab : A = B
              · have hbe := HBE.out
                rw [decide_eq_true hab] at hbe
                have HBE2 := Lib.hid hbe
                have HAB := Lib.hid hab
                clear hbe hab
                go_wp2_with fail
                refine HBE2.out.mono ?_
                rintro e1 w4 ⟨rfl, rfl⟩
                go_wp2_with fail
                go_roundg k
                case measure => omega
                case rel => exact ⟨i + 1, i + 1, (i : Int), by go_num, by omega, by omega, by omega, .inl rfl, HIT3.out, fun t ht => (by
                  by_cases e : t = i
                  · rw [e, HAW.out, HBV.out]; exact HAB.out
                  · exact HAL.out t (by omega)), HFR3.out⟩
              · have hbe := HBE.out
                rw [decide_eq_false hab] at hbe
                have HBE2 := Lib.hid hbe
                have HAB := Lib.hid hab
                clear hbe hab
                go_wp2_with fail
                refine HBE2.out.mono ?_
                rintro e1 w4 ⟨rfl, rfl⟩
                go_wp2_with fail
                go_ret
                exact ⟨false, rfl, ⟨(fun h => by cases h), fun h => absurd (by have := HWE.out h i; rw [HAW.out, HBV.out] at this; exact this) HAB.out⟩, HB3.out⟩
    · obtain rfl : j = e + 1 := by omega
      rw [decide_eq_false (by omega)] at hnx
      have HNX := Lib.hid hnx
      have hσ2 : σ = e + 1 := by omega
      subst hσ2
      clear hnx hσ
      go_wp2_with fail
      refine HNX.out.mono ?_
      rintro e1 w2 ⟨rfl, nq2, rfl⟩
      have hf2 : Fr [it] [it] wr ((wr.setCell ⟨it, 0, none⟩ (.int .i64 ((e + 1 : Nat) : Int))).drewN nq2) := (Fr.store wr (F := [it]) (a := ⟨it, 0, none⟩) (List.mem_singleton.2 rfl) _).drewN nq2
      have hfr2 := HFR.out.trans hf2
      have hp2 := HP1.out.frame hfr2 HLP.out
      have hb : Below w.heap.size w ((wr.setCell ⟨it, 0, none⟩ (.int .i64 ((e + 1 : Nat) : Int))).drewN nq2) := HB1.out.trans (hfr2.below (fun k hk => by rw [List.mem_singleton] at hk; have := HITW.out; omega) HB1.out.size)
      obtain ⟨w3, hw3⟩ : ∃ w3, (wr.setCell ⟨it, 0, none⟩ (.int .i64 ((e + 1 : Nat) : Int))).drewN nq2 = w3 := ⟨_, rfl⟩
      rw [hw3] at hb hp2 ⊢
      have HB2 := Lib.hid hb
      obtain ⟨a, c, -, -, p2, -, -⟩ := hp2.cells
      have hix := HIX.out w3
      have HIX3 := Lib.hid hix
      obtain ⟨S, hS⟩ : ∃ S, e + 1 = S := ⟨_, rfl⟩
      have HS := Lib.hid hS
      obtain ⟨H, hH⟩ : ∃ H, hiW W = H := ⟨_, rfl⟩
      rw [hH] at p2 HIX3
      rw [hS]
      have hl2 : decide (S ≤ l) = !decide (l < S) := by rw [Bool.eq_iff_iff]; simp
      clear hf2 hfr2 hp2 hb hw3 hix hS hH
      by_cases hlS : l < S
      · rw [decide_eq_true hlS] at hl2
        have hl3 : decide (S ≤ l) = false := hl2
        have hres : dnums W = dnums V := HIFF.out.2 ⟨HALL.out, by rw [HS.out]; exact hlS⟩
        have HRES := Lib.hid hres
        clear hlS hl2 hres
        go_wp2_with fail
        refine HIX3.out.mono ?_
        rintro e1 w4 ⟨rfl, rfl⟩
        go_wp2_with fail
        go_ret
        exact ⟨true, rfl, ⟨fun _ => HRES.out, fun _ => rfl⟩, HB2.out⟩
      · rw [decide_eq_false hlS] at hl2
        have hl3 : decide (S ≤ l) = true := hl2
        have hres : ¬ dnums W = dnums V := fun h => hlS (by have := (HIFF.out.1 h).2; rw [HS.out] at this; exact this)
        have HRES := Lib.hid hres
        clear hlS hl2 hres
        go_wp2_with fail
        refine HIX3.out.mono ?_
        rintro e1 w4 ⟨rfl, rfl⟩
        go_wp2_with fail
        go_ret
        exact ⟨false, rfl, ⟨(fun h => by cases h), fun h => absurd h HRES.out⟩, HB2.out⟩
end Go.Proofs.Ytjnefgmoobbniaa
