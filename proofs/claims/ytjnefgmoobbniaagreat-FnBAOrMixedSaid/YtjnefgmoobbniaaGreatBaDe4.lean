/- Walks of findRightPosition, findLeftPosition, setLowest and setHighest (printed by gen_ba_de4.py). -/
import Derived.Test.YtjnefgmoobbniaaGreatBaDe3
namespace Go.Proofs.YtjnefgmoobbniaaGreat
set_option linter.unusedVariables false
open Go.RowKit Bam

theorem test_eq (X k : Nat) (hX : X < 18446744073709551616) (hk : k < 64) : (bits BinOp.and IntKind.u64 (X : Int) (IntKind.u64.wrap (2 ^ k)) == IntKind.u64.wrap (2 ^ k)) = X.testBit k := by
  rw [and_word X k hX hk, pow_wrap k hk]
  have hp : 0 < 2 ^ k := Nat.pow_pos (by decide)
  cases h : X.testBit k with
  | true => simp
  | false =>
    rw [if_neg (by simp)]
    rw [beq_eq_false_iff_ne]; omega
theorem low_bit {X : Nat} (hX : X < 18446744073709551616) (h0 : X ≠ 0) : ∃ c, c < 64 ∧ X.testBit c = true ∧ ∀ j, j < c → X.testBit j = false := by
  have hne : bitsOf X ≠ [] := fun e => h0 ((bits_zero X hX).2 e)
  have hm := head_mem hne
  refine ⟨(bitsOf X).headD 0, (mem_bitsOf.1 hm).1, (mem_bitsOf.1 hm).2, fun j hj => ?_⟩
  cases h : X.testBit j with
  | false => rfl
  | true =>
    exfalso
    have hj64 : j < 64 := Nat.lt_trans hj (mem_bitsOf.1 hm).1
    have := head_le (asc_bitsOf X) (mem_bitsOf.2 ⟨hj64, h⟩)
    omega
theorem high_bit {X : Nat} (hX : X < 18446744073709551616) (h0 : X ≠ 0) : ∃ c, c < 64 ∧ X.testBit c = true ∧ ∀ j, c < j → j < 64 → X.testBit j = false := by
  have hne : bitsOf X ≠ [] := fun e => h0 ((bits_zero X hX).2 e)
  have hm := last_mem hne
  refine ⟨(bitsOf X).getLastD 0, (mem_bitsOf.1 hm).1, (mem_bitsOf.1 hm).2, fun j hj hj64 => ?_⟩
  cases h : X.testBit j with
  | false => rfl
  | true =>
    exfalso
    have := le_last (asc_bitsOf X) (mem_bitsOf.2 ⟨hj64, h⟩)
    omega

def FindRel (c : Nat) (w : World) (k : Nat) (idx : Value) (wr : World) : Prop := ∃ i : Nat, idx = .int .u64 (i : Int) ∧ i + k = c ∧ wr = w
def FindRelL (c : Nat) (w : World) (k : Nat) (idx : Value) (wr : World) : Prop := ∃ i : Nat, idx = .int .u64 (i : Int) ∧ i = c + k ∧ i < 64 ∧ wr = w
set_option maxRecDepth 100000 in
theorem findright_any (X c : Nat) (w : World) (hX : X < 18446744073709551616) (hc : X.testBit c = true) (hcl : c < 64) (hlow : ∀ j, j < c → X.testBit j = false) :
    Calls Tryz.prog 89 #[.int .u64 (X : Int)] w fun e w' => e = .returned (.int .u64 (c : Int)) ∧ w = w' := by
  have HX := Lib.hid hX
  have HC := Lib.hid hc
  have HL := Lib.hid hlow
  clear hX hc hlow
  go_enter Tryz.func89, Tryz.ntmps89
  go_wp2_with fail
  go_loopg [3] c (fun k idx wr => FindRel c w k idx wr)
  case atStart => exact ⟨0, rfl, by omega, rfl⟩
  case round =>
    obtain ⟨i, rfl, hik, rfl⟩ := hrel
    have ht := test_eq X i HX.out (by omega)
    by_cases hic : i = c
    · subst hic
      rw [HC.out] at ht
      clear hik
      go_wp2_with fail
      go_ret
      exact ⟨rfl, rfl⟩
    · rw [HL.out i (by omega)] at ht
      cases gk with
      | zero => omega
      | succ k =>
        skip
        skip
        skip
        skip
        go_wp2_with fail
        go_roundg k
        case measure => omega
        case rel => exact ⟨i + 1, by go_num, by omega, rfl⟩
set_option maxRecDepth 100000 in
theorem findleft_any (X c : Nat) (w : World) (hX : X < 18446744073709551616) (hc : X.testBit c = true) (hcl : c < 64) (hlow : ∀ j, c < j → j < 64 → X.testBit j = false) :
    Calls Tryz.prog 52 #[.int .u64 (X : Int)] w fun e w' => e = .returned (.int .u64 (c : Int)) ∧ w = w' := by
  have HX := Lib.hid hX
  have HC := Lib.hid hc
  have HL := Lib.hid hlow
  clear hX hc hlow
  go_enter Tryz.func52, Tryz.ntmps52
  go_wp2_with fail
  go_loopg [3] (63 - c) (fun k idx wr => FindRelL c w k idx wr)
  case atStart => exact ⟨63, rfl, by omega, by decide, rfl⟩
  case round =>
    obtain ⟨i, rfl, hik, hi64, rfl⟩ := hrel
    have ht := test_eq X i HX.out (by omega)
    by_cases hic : i = c
    · subst hic
      rw [HC.out] at ht
      clear hik
      go_wp2_with fail
      go_ret
      exact ⟨rfl, rfl⟩
    · rw [HL.out i (by omega) (by omega)] at ht
      cases gk with
      | zero => omega
      | succ k =>
        have hi1 : 1 ≤ i := by omega
        have hiw : IntKind.u64.wrap ((i : Int) - 1) = ((i - 1 : Nat) : Int) := by rw [show (i : Int) - 1 = ((i - 1 : Nat) : Int) by omega]; exact u64wd _ (by omega)
        have HIK := Lib.hid hik
        clear hik hic
        go_wp2_with fail
        go_roundg k
        case measure => omega
        case rel => exact ⟨i - 1, by first | rfl | (rw [show ((i - 1 : Nat) : Int) = (i : Int) - 1 by omega]), by have := HIK.out; omega, by omega, rfl⟩
def setLowestRel (W : List Nat) (n : Nat) (w : World) (k : Nat) (idx : Value) (wr : World) : Prop := ∃ i : Nat, idx = .int .u64 (i : Int) ∧ i + k = n ∧ i ≤ n ∧ (∀ j, j < i → W.getD j 0 = 0) ∧ wr = w
set_option maxRecDepth 100000 in
set_option maxHeartbeats 1000000 in
theorem setlow_any (p : Nat) (F W : List Nat) (lo hi : Nat) (any : Bool) (w : World) (h : DeAt w p F W lo hi any) (hok : W64 W) (hn : W.length ≤ 100000) :
    Calls Tryz.prog 72 #[.pointer (some ⟨p, 0, none⟩)] w fun e w' => e = .returned (.tuple #[]) ∧ DeAt w' p F W (loW W) (if anyW W = true then hi else 0) (anyW W) ∧ Fr F F w w' := by
  obtain ⟨a, c, c0, -, -, -, hcells⟩ := h.cells
  have HAT := Lib.hid h
  obtain ⟨a', c', h1, h2, hF⟩ := h
  have f1 := h1.free 1
  have f2 := h1.free 2
  have f3 := h1.free 3
  have k1 : w.cell? ⟨p, 1, none⟩ = some (.int .u64 (lo : Int)) := h1.cell 1 rfl
  have k2 : w.cell? ⟨p, 2, none⟩ = some (.int .u64 (hi : Int)) := h1.cell 2 rfl
  have k3 : w.cell? ⟨p, 3, none⟩ = some (.bool any) := h1.cell 3 rfl
  obtain ⟨L2, hL2⟩ : ∃ x, (loW W) = x := ⟨_, rfl⟩
  obtain ⟨H2, hH2⟩ : ∃ x, (if anyW W = true then hi else 0) = x := ⟨_, rfl⟩
  obtain ⟨A2, hA2⟩ : ∃ x, anyW W = x := ⟨_, rfl⟩
  rw [hL2, hH2, hA2]
  have HPE := Lib.hid (And.intro hL2 (And.intro hH2 hA2))
  clear hL2 hH2 hA2
  obtain ⟨n, hN⟩ : ∃ n, W.length = n := ⟨_, rfl⟩
  rw [hN] at c0 hn hcells
  have hnw : IntKind.u64.wrap (n : Int) = (n : Int) := u64wd n (by omega)
  have HN := Lib.hid hN
  have HC := Lib.hid hcells
  have HOK := Lib.hid hok
  have HH1 := Lib.hid h1
  have HH2 := Lib.hid h2
  have HFE := Lib.hid hF
  clear hcells h1 h2 hF hN hok
  go_enter Tryz.func72, Tryz.ntmps72
  go_wp2_with fail
  go_loopg [2] n (fun k idx wr => setLowestRel W n w k idx wr)
  case atStart => exact ⟨0, rfl, by omega, Nat.zero_le _, fun j hj => absurd hj (Nat.not_lt_zero _), rfl⟩
  case round =>
    obtain ⟨i, rfl, hik, hin, hz, rfl⟩ := hrel
    have HZ := Lib.hid hz
    clear hz
    by_cases hil : i < n
    · obtain ⟨g, rfl, hcl⟩ := HC.out (by omega)
      have hci := hcl i hil
      have hX64 : W.getD i 0 < 18446744073709551616 := getD_lt HOK.out i
      obtain ⟨X, hX⟩ : ∃ X, W.getD i 0 = X := ⟨_, rfl⟩
      rw [hX] at hci hX64
      have HX := Lib.hid hX
      clear hcl hX
      by_cases h0 : X = 0
      · have t0 : ((X : Int) == 0) = true := by rw [h0]; rfl
        have H0 := Lib.hid h0
        clear h0
        cases gk with
        | zero => omega
        | succ k =>
          go_wp2_with fail
          go_roundg k
          case measure => omega
          case rel => exact ⟨i + 1, by go_num, by omega, by omega, fun j hj => if e : j = i then (by rw [e, HX.out]; exact H0.out) else HZ.out j (by omega), rfl⟩
      · have t0 : ((X : Int) == 0) = false := by rw [beq_eq_false_iff_ne]; omega
        obtain ⟨b, hb64, hbt, hbl⟩ := low_bit hX64 h0
        have hat := lo_at HOK.out (i := i) (c := b) (by rw [HN.out]; omega) (fun j hj => HZ.out j hj) (by rw [HX.out]; exact hbt) hb64 (by rw [HX.out]; exact hbl)
        have hfi := findright_any X b wr hX64 hbt hb64 hbl
        have hmul : IntKind.u64.wrap ((i : Int) * 64) = ((i * 64 : Nat) : Int) := by rw [show (i : Int) * 64 = ((i * 64 : Nat) : Int) by omega]; exact u64wd _ (by omega)
        have hadd : IntKind.u64.wrap (((i * 64 : Nat) : Int) + (b : Int)) = ((i * 64 + b : Nat) : Int) := by rw [show ((i * 64 : Nat) : Int) + (b : Int) = ((i * 64 + b : Nat) : Int) by omega]; exact u64wd _ (by omega)
        have HA := Lib.hid hat
        have HFI := Lib.hid hfi
        have HMU := Lib.hid hmul
        have HAD := Lib.hid hadd
        clear hat hfi hbt hbl h0 hmul hadd
        go_wp2_with fail
        refine HFI.out.mono ?_
        rintro e w' ⟨rfl, rfl⟩
        have hlow : (i : Int) * 64 + (b : Int) = ((i * 64 + b : Nat) : Int) := by omega
        have HLW := Lib.hid hlow
        clear hlow
        go_wp2_with fail
        refine bodyPost_ret (results_none (by rfl) _ _ _) rfl ?_
        rw [← HPE.out.1, ← HPE.out.2.1, ← HPE.out.2.2]
        have e1 : ∀ v : Int, v = ((i * 64 + b : Nat) : Int) → DeAt ((wr.setCell ⟨p, 1, none⟩ (.int .u64 v)).setCell ⟨p, 3, none⟩ (.bool true)) p F W (loW W) (if anyW W = true then hi else 0) (anyW W) ∧ Fr F F wr ((wr.setCell ⟨p, 1, none⟩ (.int .u64 v)).setCell ⟨p, 3, none⟩ (.bool true)) := fun v hv => by
          subst hv
          rw [HA.out.1, HA.out.2, HFE.out]
          simp only [if_true]
          refine ⟨⟨a', c', ((HH1.out.set 1 _).set 3 (.bool true)), Ue.field (HH1.out.set 1 _) (Ue.field HH1.out HH2.out 1 _) 3 (.bool true), rfl⟩, Fr.weaken ((fr_store_other wr p 1 _).trans (fr_store_other _ p 3 (.bool true))) (fun x hx => by rw [List.mem_singleton.1 hx]; exact List.mem_cons_self) (fun x hx => .inr hx)⟩
        exact ⟨rfl, e1 _ (by have := HMU.out; have := HAD.out; omega)⟩
    · obtain rfl : i = n := by omega
      skip
      have hnil : dnums W = [] := zero_all HOK.out (fun j hj => HZ.out j (by rw [← HN.out]; exact hj))
      have HNIL := Lib.hid hnil
      clear hnil
      go_wp2_with fail
      go_end0
      rw [← HPE.out.1, ← HPE.out.2.1, ← HPE.out.2.2]
      obtain ⟨z1, z2, z3⟩ := lo_nil HNIL.out
      rw [z1, z3, HFE.out]
      simp only [Bool.false_eq_true, if_false]
      refine ⟨by first | rfl | trivial, ⟨a', c', (((HH1.out.set 3 (.bool false)).set 1 (.int .u64 0)).set 2 (.int .u64 0)), (Ue.field ((HH1.out.set 3 (.bool false)).set 1 (.int .u64 0)) (Ue.field (HH1.out.set 3 (.bool false)) (Ue.field HH1.out HH2.out 3 (.bool false)) 1 (.int .u64 0)) 2 (.int .u64 0)), rfl⟩, Fr.weaken ((((Fr.refl [p] wr).trans (fr_store_other _ p 3 (.bool false))).trans (fr_store_other _ p 1 (.int .u64 0))).trans (fr_store_other _ p 2 (.int .u64 0))) (fun x hx => by rw [List.mem_singleton.1 hx]; exact List.mem_cons_self) (fun x hx => .inr hx)⟩
def setHighestRel (W : List Nat) (n : Nat) (w : World) (k : Nat) (idx : Value) (wr : World) : Prop := ∃ i : Nat, idx = .int .i64 ((i : Int) - 1) ∧ i = k ∧ i ≤ n ∧ (∀ j, i ≤ j → W.getD j 0 = 0) ∧ wr = w
set_option maxRecDepth 100000 in
set_option maxHeartbeats 1000000 in
theorem sethigh_any (p : Nat) (F W : List Nat) (lo hi : Nat) (any : Bool) (w : World) (h : DeAt w p F W lo hi any) (hok : W64 W) (hn : W.length ≤ 100000) :
    Calls Tryz.prog 71 #[.pointer (some ⟨p, 0, none⟩)] w fun e w' => e = .returned (.tuple #[]) ∧ DeAt w' p F W (if anyW W = true then lo else 0) (hiW W) (anyW W) ∧ Fr F F w w' := by
  obtain ⟨a, c, c0, -, -, -, hcells⟩ := h.cells
  have HAT := Lib.hid h
  obtain ⟨a', c', h1, h2, hF⟩ := h
  have f1 := h1.free 1
  have f2 := h1.free 2
  have f3 := h1.free 3
  have k1 : w.cell? ⟨p, 1, none⟩ = some (.int .u64 (lo : Int)) := h1.cell 1 rfl
  have k2 : w.cell? ⟨p, 2, none⟩ = some (.int .u64 (hi : Int)) := h1.cell 2 rfl
  have k3 : w.cell? ⟨p, 3, none⟩ = some (.bool any) := h1.cell 3 rfl
  obtain ⟨L2, hL2⟩ : ∃ x, (if anyW W = true then lo else 0) = x := ⟨_, rfl⟩
  obtain ⟨H2, hH2⟩ : ∃ x, (hiW W) = x := ⟨_, rfl⟩
  obtain ⟨A2, hA2⟩ : ∃ x, anyW W = x := ⟨_, rfl⟩
  rw [hL2, hH2, hA2]
  have HPE := Lib.hid (And.intro hL2 (And.intro hH2 hA2))
  clear hL2 hH2 hA2
  obtain ⟨n, hN⟩ : ∃ n, W.length = n := ⟨_, rfl⟩
  rw [hN] at c0 hn hcells
  have hnw : IntKind.u64.wrap (n : Int) = (n : Int) := u64wd n (by omega)
  have HN := Lib.hid hN
  have HC := Lib.hid hcells
  have HOK := Lib.hid hok
  have HH1 := Lib.hid h1
  have HH2 := Lib.hid h2
  have HFE := Lib.hid hF
  clear hcells h1 h2 hF hN hok
  go_enter Tryz.func71, Tryz.ntmps71
  go_wp2_with fail
  go_loopg [2] n (fun k idx wr => setHighestRel W n w k idx wr)
  case atStart => exact ⟨n, by first | rfl | go_num, rfl, Nat.le_refl _, fun j hj => by rw [List.getD_eq_getElem?_getD, List.getElem?_eq_none (by rw [HN.out]; exact hj)]; rfl, rfl⟩
  case round =>
    obtain ⟨i, rfl, hik, hin, hz, rfl⟩ := hrel
    have HZ := Lib.hid hz
    clear hz
    by_cases hil : 0 < i
    · obtain ⟨m, rfl⟩ : ∃ m, i = m + 1 := ⟨i - 1, by omega⟩
      obtain ⟨g, rfl, hcl⟩ := HC.out (by omega)
      have hci := hcl m (by omega)
      have hX64 : W.getD m 0 < 18446744073709551616 := getD_lt HOK.out m
      obtain ⟨X, hX⟩ : ∃ X, W.getD m 0 = X := ⟨_, rfl⟩
      rw [hX] at hci hX64
      have HX := Lib.hid hX
      have hmi : ((m + 1 : Nat) : Int) - 1 = (m : Int) := by omega
      rw [hmi]
      have HMI := Lib.hid hmi
      have hmw : IntKind.u64.wrap (m : Int) = (m : Int) := u64wd m (by omega)
      have hmn : m < n := by omega
      have hm1 : IntKind.i64.wrap ((m : Int) - 1) = (m : Int) - 1 := IntWalk.i64_in _ (by omega)
      clear hcl hX hmi
      by_cases h0 : X = 0
      · have t0 : ((X : Int) == 0) = true := by rw [h0]; rfl
        have H0 := Lib.hid h0
        clear h0
        cases gk with
        | zero => omega
        | succ k =>
          go_wp2_with fail
          go_roundg k
          case measure => omega
          case rel => exact ⟨m, by first | rfl | go_num, by omega, by omega, fun j hj => if e : j = m then (by rw [e, HX.out]; exact H0.out) else HZ.out j (by omega), rfl⟩
      · have t0 : ((X : Int) == 0) = false := by rw [beq_eq_false_iff_ne]; omega
        obtain ⟨b, hb64, hbt, hbl⟩ := high_bit hX64 h0
        have hat := hi_at HOK.out (i := m) (c := b) (by rw [HN.out]; omega) (fun j hj => HZ.out j hj) (by rw [HX.out]; exact hbt) hb64 (by rw [HX.out]; exact hbl)
        have hfi := findleft_any X b wr hX64 hbt hb64 hbl
        have hmul : IntKind.u64.wrap ((m : Int) * 64) = ((m * 64 : Nat) : Int) := by rw [show (m : Int) * 64 = ((m * 64 : Nat) : Int) by omega]; exact u64wd _ (by omega)
        have hadd : IntKind.u64.wrap (((m * 64 : Nat) : Int) + (b : Int)) = ((m * 64 + b : Nat) : Int) := by rw [show ((m * 64 : Nat) : Int) + (b : Int) = ((m * 64 + b : Nat) : Int) by omega]; exact u64wd _ (by omega)
        have HA := Lib.hid hat
        have HFI := Lib.hid hfi
        have HMU := Lib.hid hmul
        have HAD := Lib.hid hadd
        clear hat hfi hbt hbl h0 hmul hadd
        go_wp2_with fail
        refine HFI.out.mono ?_
        rintro e w' ⟨rfl, rfl⟩
        have hlow : (m : Int) * 64 + (b : Int) = ((m * 64 + b : Nat) : Int) := by omega
        have HLW := Lib.hid hlow
        clear hlow
        go_wp2_with fail
        refine bodyPost_ret (results_none (by rfl) _ _ _) rfl ?_
        rw [← HPE.out.1, ← HPE.out.2.1, ← HPE.out.2.2]
        have e1 : ∀ v : Int, v = ((m * 64 + b : Nat) : Int) → DeAt ((wr.setCell ⟨p, 2, none⟩ (.int .u64 v)).setCell ⟨p, 3, none⟩ (.bool true)) p F W (if anyW W = true then lo else 0) (hiW W) (anyW W) ∧ Fr F F wr ((wr.setCell ⟨p, 2, none⟩ (.int .u64 v)).setCell ⟨p, 3, none⟩ (.bool true)) := fun v hv => by
          subst hv
          rw [HA.out.1, HA.out.2, HFE.out]
          simp only [if_true]
          refine ⟨⟨a', c', ((HH1.out.set 2 _).set 3 (.bool true)), Ue.field (HH1.out.set 2 _) (Ue.field HH1.out HH2.out 2 _) 3 (.bool true), rfl⟩, Fr.weaken ((fr_store_other wr p 2 _).trans (fr_store_other _ p 3 (.bool true))) (fun x hx => by rw [List.mem_singleton.1 hx]; exact List.mem_cons_self) (fun x hx => .inr hx)⟩
        exact ⟨rfl, e1 _ (by have := HMU.out; have := HAD.out; omega)⟩
    · obtain rfl : i = 0 := by omega
      clear hik
      have hnil : dnums W = [] := zero_all HOK.out (fun j hj => HZ.out j (Nat.zero_le _))
      have HNIL := Lib.hid hnil
      clear hnil
      go_wp2_with fail
      go_end0
      rw [← HPE.out.1, ← HPE.out.2.1, ← HPE.out.2.2]
      obtain ⟨z1, z2, z3⟩ := lo_nil HNIL.out
      rw [z2, z3, HFE.out]
      simp only [Bool.false_eq_true, if_false]
      refine ⟨by first | rfl | trivial, ⟨a', c', (((HH1.out.set 3 (.bool false)).set 2 (.int .u64 0)).set 1 (.int .u64 0)), (Ue.field ((HH1.out.set 3 (.bool false)).set 2 (.int .u64 0)) (Ue.field (HH1.out.set 3 (.bool false)) (Ue.field HH1.out HH2.out 3 (.bool false)) 2 (.int .u64 0)) 1 (.int .u64 0)), rfl⟩, Fr.weaken ((((Fr.refl [p] wr).trans (fr_store_other _ p 3 (.bool false))).trans (fr_store_other _ p 2 (.int .u64 0))).trans (fr_store_other _ p 1 (.int .u64 0))) (fun x hx => by rw [List.mem_singleton.1 hx]; exact List.mem_cons_self) (fun x hx => .inr hx)⟩
end Go.Proofs.YtjnefgmoobbniaaGreat
