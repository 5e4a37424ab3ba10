/- The walk of BitSet's OnesBetween. -/
import Derived.Test.YtbgmkojiklphmaaBsPopSl
import Derived.Test.YtbgmkojiklphmaaBsFlip
import Derived.Test.YtbgmkojiklphmaaBsWhole
namespace Go.Proofs.Ytbgmkojiklphmaa
set_option linter.unusedVariables false
open Go.RowKit

/-- a word under a mask whose bits are those from a up to b -/
theorem Bsm.pc_mask (x m a b : Nat) (hab : a ≤ b) (hb : b ≤ 64) (hm : ∀ j, j < 64 → m.testBit j = (decide (a ≤ j) && decide (j < b))) : Pop.pc 64 (x &&& m) = Bsm.cnt (fun j => x.testBit j) a (b - a) := by
  have h1 : Bsm.cnt (fun j => (x &&& m).testBit j) 0 a = 0 := Bsm.cnt_none _ 0 a fun j hj => by
    rw [Nat.testBit_and, hm _ (by omega), decide_eq_false (by omega : ¬ a ≤ 0 + j), Bool.false_and, Bool.and_false]
  have h2 : Bsm.cnt (fun j => (x &&& m).testBit j) b (64 - b) = 0 := Bsm.cnt_none _ b (64 - b) fun j hj => by
    rw [Nat.testBit_and, hm _ (by omega), decide_eq_false (by omega : ¬ b + j < b), Bool.and_false, Bool.and_false]
  have h3 : Bsm.cnt (fun j => (x &&& m).testBit j) a (b - a) = Bsm.cnt (fun j => x.testBit j) a (b - a) := Bsm.cnt_congr _ _ _ _ _ fun j hj => by
    rw [Nat.testBit_and, hm _ (by omega), decide_eq_true (by omega : a ≤ a + j), decide_eq_true (by omega : a + j < b), Bool.and_true, Bool.and_true]
  have e : Bsm.cnt (fun j => (x &&& m).testBit j) 0 (a + ((b - a) + (64 - b))) = Bsm.cnt (fun j => x.testBit j) a (b - a) := by
    rw [Bsm.cnt_add, Bsm.cnt_add, h1, Nat.zero_add, Nat.zero_add, show a + (b - a) = b from by omega, h2, h3, Nat.add_zero]
  rw [Bsm.pc_cnt, ← e, show a + ((b - a) + (64 - b)) = 64 from by omega]

theorem Bsm.cnt_in_word (ws : List Nat) (q a n : Nat) (h : a + n ≤ 64) : Bsm.cnt (fun j => (ws.getD q 0).testBit j) a n = Bsm.cnt (Bsm.bit ws) (64 * q + a) n :=
  Bsm.cnt_congr _ _ _ _ _ fun j hj => by
    unfold Bsm.bit
    rw [show (64 * q + a + j) / 64 = q from by omega, show (64 * q + a + j) % 64 = a + j from by omega]

/-- the masks -/
theorem low_mask (e j : Nat) : (2 ^ e - 1).testBit j = decide (j < e) := Nat.testBit_two_pow_sub_one e j
theorem high_mask (s j : Nat) (hs : s ≤ 64) (hj : j < 64) : (18446744073709551615 - (2 ^ s - 1)).testBit j = decide (s ≤ j) := by
  have hp : 2 ^ s ≤ 2 ^ 64 := Nat.pow_le_pow_right (by decide) hs
  have hp1 := Nat.two_pow_pos s
  have e : 18446744073709551615 - (2 ^ s - 1) = 2 ^ 64 - ((2 ^ s - 1) + 1) := by omega
  rw [e, Nat.testBit_two_pow_sub_succ (by omega), low_mask, decide_eq_true hj, Bool.true_and, Bool.eq_iff_iff]
  simp
theorem mask_lt (s : Nat) (hs : s ≤ 64) : 2 ^ s - 1 < 18446744073709551616 := by
  have hp : 2 ^ s ≤ 2 ^ 64 := Nat.pow_le_pow_right (by decide) hs
  have hp1 := Nat.two_pow_pos s
  omega

theorem pc_low (x e : Nat) (he : e ≤ 64) : Pop.pc 64 (x &&& (2 ^ e - 1)) = Bsm.cnt (fun j => x.testBit j) 0 e := by
  rw [Bsm.pc_mask x (2 ^ e - 1) 0 e (by omega) he (fun j hj => by rw [low_mask]; simp)]
  rfl
theorem pc_high (x s : Nat) (hs : s ≤ 64) : Pop.pc 64 (x &&& (18446744073709551615 - (2 ^ s - 1))) = Bsm.cnt (fun j => x.testBit j) s (64 - s) :=
  Bsm.pc_mask x _ s 64 hs (by omega) (fun j hj => by rw [high_mask s j hs hj]; simp [hj])
theorem pc_mid (x s e : Nat) (hse : s ≤ e) (he : e ≤ 64) : Pop.pc 64 (x &&& ((2 ^ e - 1) &&& (18446744073709551615 - (2 ^ s - 1)))) = Bsm.cnt (fun j => x.testBit j) s (e - s) :=
  Bsm.pc_mask x _ s e hse he (fun j hj => by rw [Nat.testBit_and, low_mask, high_mask s j (by omega) hj, Bool.and_comm])

/-- the masks as the walk spells them -/
theorem one_shl (k : Nat) (hk : k < 64) : IntKind.u64.wrap (IntKind.u64.wrap ((2 : Int) ^ k) - 1) = ((2 ^ k - 1 : Nat) : Int) := by
  have hp : 2 ^ k < 2 ^ 64 := Nat.pow_lt_pow_right (by omega) (by omega)
  have hp1 := Nat.two_pow_pos k
  rw [pow_wrap _ hk, IntKind.wrap_u64]
  omega



theorem Sl.cut {w : World} {b off n cap : Nat} {xs : List Nat} (h : Sl w (.slice (some ⟨b, off, none⟩) n cap) (u64s xs)) (k e : Nat) (hk : k < e) (he : e ≤ n) : Sl w (.slice (some ⟨b, off + k, none⟩) (e - k) (cap - k)) (u64s ((xs.drop k).take (e - k))) := by
  obtain ⟨a, m, c, eq, h1, h2, h3, h4⟩ := h
  simp only [Value.slice.injEq] at eq
  obtain ⟨rfl, rfl, rfl⟩ := eq
  rw [u64s_len] at h1
  refine ⟨_, _, _, rfl, by rw [u64s_len]; simp; omega, by omega, by omega, fun _ => ⟨b, off + k, rfl, fun i u hu => ?_⟩⟩
  obtain ⟨b', off', eq, h5⟩ := h4 (by omega)
  simp only [Option.some.injEq, Addr.mk.injEq, and_true] at eq
  obtain ⟨rfl, rfl⟩ := eq
  have hi : i < e - k := by
    have := (List.getElem?_eq_some_iff.1 hu).1
    rw [u64s_len, List.length_take] at this
    omega
  have := h5 (k + i) u (by simpa [u64s, List.getElem?_take, hi] using hu)
  rwa [← Nat.add_assoc] at this

theorem Bsm.bit_cut (ws : List Nat) (k m j : Nat) (hj : j < 64 * m) : Bsm.bit ((ws.drop k).take m) j = Bsm.bit ws (64 * k + j) := by
  unfold Bsm.bit
  rw [show (64 * k + j) / 64 = k + j / 64 from by omega, show (64 * k + j) % 64 = j % 64 from by omega]
  have : j / 64 < m := by omega
  simp [List.getD_eq_getElem?_getD, List.getElem?_take, List.getElem?_drop, this]
attribute [local irreducible] Pop.pc Bsm.cnt

set_option maxRecDepth 100000 in
set_option maxHeartbeats 8000000 in
theorem between_none_lo (B p L f t : Nat) (ws : List Nat) (cap : Nat) (w : World) (hb : Bs B w p L ws cap) (hwl : ws.length = (L + 63) / 64) (hL : L ≤ 10000) (ht5 : t ≤ 10000) (ht : t ≤ L) (hft : t ≤ f) (hf6 : f ≤ 10000) :
    Calls Try.prog 75 #[.pointer (some ⟨p, 0, none⟩), .int .u64 (f : Int), .int .u64 (t : Int)] w
      fun e w' => e = .returned (.int .u64 (Bsm.cnt (Bsm.bit ws) f (t - f) : Nat)) ∧ ∃ m, w' = w.drewN m := by
  have e0 : Bsm.cnt (Bsm.bit ws) f (t - f) = 0 := by rw [show t - f = 0 from by omega]; exact Bsm.cnt_zero _ _
  rw [e0]
  obtain ⟨g, c0, c1, _⟩ := hb.sl
  clear hb e0 hwl
  go_enter Try.func75, Try.ntmps75
  go_wp2_with fail
  refine (notnull_any _ _).mono ?_
  rintro e w' ⟨rfl, rfl⟩
  go_wp2_with fail
  go_ret
  exact ⟨rfl, 0, rfl⟩

set_option maxRecDepth 100000 in
set_option maxHeartbeats 8000000 in
theorem between_one_lo (B p L f t : Nat) (ws : List Nat) (cap : Nat) (w : World) (hb : Bs B w p L ws cap) (hwl : ws.length = (L + 63) / 64) (hL : L ≤ 10000) (ht5 : t ≤ 10000) (ht : t ≤ L) (hft : f < t) (hword : f / 64 = t / 64) :
    Calls Try.prog 75 #[.pointer (some ⟨p, 0, none⟩), .int .u64 (f : Int), .int .u64 (t : Int)] w
      fun e w' => e = .returned (.int .u64 (Bsm.cnt (Bsm.bit ws) f (t - f) : Nat)) ∧ ∃ m, w' = w.drewN m := by
  obtain ⟨g, c0, c1, hS, _⟩ := hb.sl
  obtain ⟨n, hn⟩ : ∃ n, ws.length = n := ⟨_, rfl⟩
  have hlt := hb.word_lt
  obtain ⟨g', d0, d1, c2⟩ := hb.cells
  rw [c1] at d1
  simp only [Option.some.injEq, Value.slice.injEq, Addr.mk.injEq, and_true, true_and] at d1
  subst d1
  obtain ⟨q, hq⟩ : ∃ q, f / 64 = q := ⟨_, rfl⟩
  obtain ⟨e, he⟩ : ∃ e, t / 64 = e := ⟨_, rfl⟩
  obtain ⟨s, hs⟩ : ∃ s, f % 64 = s := ⟨_, rfl⟩
  obtain ⟨o, ho⟩ : ∃ o, t % 64 = o := ⟨_, rfl⟩
  have hs1 : s < 64 := by omega
  have ho1 : o < 64 := by omega
  have hq1 : (f : Int) / 64 = (q : Int) := by omega
  have he1 : (t : Int) / 64 = (e : Int) := by omega
  have hs2 : bits BinOp.and IntKind.u64 (f : Int) 63 = (s : Int) := by have := u64_and_nat f 63 (by omega) (by omega); rw [and63, hs] at this; exact this
  have ho2 : bits BinOp.and IntKind.u64 (t : Int) 63 = (o : Int) := by have := u64_and_nat t 63 (by omega) (by omega); rw [and63, ho] at this; exact this
  obtain ⟨ms, hms⟩ : ∃ ms, 2 ^ s - 1 = ms := ⟨_, rfl⟩
  obtain ⟨mo, hmo⟩ : ∃ mo, 2 ^ o - 1 = mo := ⟨_, rfl⟩
  have hms1 : ms < 18446744073709551616 := by rw [← hms]; exact mask_lt s (by omega)
  have hmo1 : mo < 18446744073709551616 := by rw [← hmo]; exact mask_lt o (by omega)
  have hws : IntKind.u64.wrap (IntKind.u64.wrap ((2 : Int) ^ s) - 1) = (ms : Int) := by rw [← hms]; exact one_shl s hs1
  have hwo : IntKind.u64.wrap (IntKind.u64.wrap ((2 : Int) ^ o) - 1) = (mo : Int) := by rw [← hmo]; exact one_shl o ho1
  rw [hn] at c1 hS c2
  have hqe : q ≤ e := by omega
  have hen : e ≤ n := by omega
  have hqn : q < n := by omega
  have hoe : 0 < o → e < n := by intro h; omega
  have hn5 : n ≤ 10000 := by omega
  have hf5 : f ≤ 10000 := by omega
  obtain rfl : q = e := by omega
  have hX := hlt q
  have hcell := c2 q hqn
  have hmask : bits BinOp.andNot IntKind.u64 (mo : Int) (ms : Int) = ((mo &&& (18446744073709551615 - ms) : Nat) : Int) := u64_andNot_nat mo ms hmo1 hms1
  have hpc := pc_mid (ws.getD q 0) s o (by omega) (by omega)
  rw [hms, hmo, Bsm.cnt_in_word ws q s (o - s) (by omega), show 64 * q + s = f from by omega, show o - s = t - f from by omega] at hpc
  obtain ⟨X, hXX⟩ : ∃ X, ws.getD q 0 = X := ⟨_, rfl⟩
  rw [hXX] at hX hcell hpc
  obtain ⟨M, hM⟩ : ∃ M, mo &&& (18446744073709551615 - ms) = M := ⟨_, rfl⟩
  rw [hM] at hmask hpc
  have hM1 : M < 18446744073709551616 := by rw [← hM]; exact and_lt _ _ hmo1
  have hz : bits BinOp.and IntKind.u64 (X : Int) (M : Int) = ((X &&& M : Nat) : Int) := u64_and_nat X M hX hM1
  have HZL := Lib.hid (and_lt X M hX)
  obtain ⟨Z, hZ⟩ : ∃ Z, X &&& M = Z := ⟨_, rfl⟩
  rw [hZ] at hz hpc HZL
  obtain ⟨V, hV⟩ : ∃ V, Bsm.cnt (Bsm.bit ws) f (t - f) = V := ⟨_, rfl⟩
  have hVl := Bsm.cnt_le (Bsm.bit ws) f (t - f)
  rw [hV] at hpc hVl ⊢
  have hV2 : V ≤ 10000 := by omega
  have HPC := Lib.hid hpc
  clear hb hwl hlt c2 hS hq he hs ho hms hmo hms1 hmo1 hX hXX hM hM1 hZ hV hVl hpc hoe hword hn
  go_enter Try.func75, Try.ntmps75
  go_wp2_with fail
  refine (notnull_any _ _).mono ?_
  rintro e w' ⟨rfl, rfl⟩
  go_wp2_with fail
  refine (ones_eq Z V HPC.out _ HZL.out).mono ?_
  rintro e w' ⟨rfl, rfl⟩
  go_wp2_with fail
  go_ret
  exact ⟨rfl, 0, rfl⟩

set_option maxRecDepth 100000 in
set_option maxHeartbeats 8000000 in
theorem between_two_lo (B p L f t : Nat) (ws : List Nat) (cap : Nat) (w : World) (hb : Bs B w p L ws cap) (hwl : ws.length = (L + 63) / 64) (hL : L ≤ 10000) (ht5 : t ≤ 10000) (ht : t ≤ L) (hft : f < t) (hword : f / 64 < t / 64) :
    Calls Try.prog 75 #[.pointer (some ⟨p, 0, none⟩), .int .u64 (f : Int), .int .u64 (t : Int)] w
      fun e w' => e = .returned (.int .u64 (Bsm.cnt (Bsm.bit ws) f (t - f) : Nat)) ∧ ∃ m, w' = w.drewN m := by
  obtain ⟨g, c0, c1, hS, _⟩ := hb.sl
  obtain ⟨n, hn⟩ : ∃ n, ws.length = n := ⟨_, rfl⟩
  have hlt := hb.word_lt
  obtain ⟨g', d0, d1, c2⟩ := hb.cells
  rw [c1] at d1
  simp only [Option.some.injEq, Value.slice.injEq, Addr.mk.injEq, and_true, true_and] at d1
  subst d1
  obtain ⟨q, hq⟩ : ∃ q, f / 64 = q := ⟨_, rfl⟩
  obtain ⟨e, he⟩ : ∃ e, t / 64 = e := ⟨_, rfl⟩
  obtain ⟨s, hs⟩ : ∃ s, f % 64 = s := ⟨_, rfl⟩
  obtain ⟨o, ho⟩ : ∃ o, t % 64 = o := ⟨_, rfl⟩
  have hs1 : s < 64 := by omega
  have ho1 : o < 64 := by omega
  have hq1 : (f : Int) / 64 = (q : Int) := by omega
  have he1 : (t : Int) / 64 = (e : Int) := by omega
  have hs2 : bits BinOp.and IntKind.u64 (f : Int) 63 = (s : Int) := by have := u64_and_nat f 63 (by omega) (by omega); rw [and63, hs] at this; exact this
  have ho2 : bits BinOp.and IntKind.u64 (t : Int) 63 = (o : Int) := by have := u64_and_nat t 63 (by omega) (by omega); rw [and63, ho] at this; exact this
  obtain ⟨ms, hms⟩ : ∃ ms, 2 ^ s - 1 = ms := ⟨_, rfl⟩
  obtain ⟨mo, hmo⟩ : ∃ mo, 2 ^ o - 1 = mo := ⟨_, rfl⟩
  have hms1 : ms < 18446744073709551616 := by rw [← hms]; exact mask_lt s (by omega)
  have hmo1 : mo < 18446744073709551616 := by rw [← hmo]; exact mask_lt o (by omega)
  have hws : IntKind.u64.wrap (IntKind.u64.wrap ((2 : Int) ^ s) - 1) = (ms : Int) := by rw [← hms]; exact one_shl s hs1
  have hwo : IntKind.u64.wrap (IntKind.u64.wrap ((2 : Int) ^ o) - 1) = (mo : Int) := by rw [← hmo]; exact one_shl o ho1
  rw [hn] at c1 hS c2
  have hqe : q ≤ e := by omega
  have hen : e ≤ n := by omega
  have hqn : q < n := by omega
  have hoe : 0 < o → e < n := by intro h; omega
  have hn5 : n ≤ 10000 := by omega
  have hf5 : f ≤ 10000 := by omega
  have hqe2 : q < e := by omega
  have hX := hlt q
  have hcell := c2 q hqn
  have hcap : n ≤ cap ∧ cap ≤ maxLen := by obtain ⟨a, m, c, eq, _, h2, h3, _⟩ := hS; simp only [Value.slice.injEq] at eq; omega
  obtain ⟨hcap1, hcap2⟩ := hcap
  unfold maxLen at hcap2
  have hnot : bits BinOp.xor IntKind.u64 IntKind.u64.max (ms : Int) = ((18446744073709551615 - ms : Nat) : Int) := not_word ms hms1
  have hpc := pc_high (ws.getD q 0) s (by omega)
  rw [hms, Bsm.cnt_in_word ws q s (64 - s) (by omega), show 64 * q + s = f from by omega] at hpc
  obtain ⟨X, hXX⟩ : ∃ X, ws.getD q 0 = X := ⟨_, rfl⟩
  rw [hXX] at hX hcell hpc
  obtain ⟨M, hM⟩ : ∃ M, 18446744073709551615 - ms = M := ⟨_, rfl⟩
  rw [hM] at hnot hpc
  have hM1 : M < 18446744073709551616 := by omega
  have hz : bits BinOp.and IntKind.u64 (X : Int) (M : Int) = ((X &&& M : Nat) : Int) := u64_and_nat X M hX hM1
  have HZL := Lib.hid (and_lt X M hX)
  obtain ⟨Z, hZ⟩ : ∃ Z, X &&& M = Z := ⟨_, rfl⟩
  rw [hZ] at hz hpc HZL
  obtain ⟨V1, hV1⟩ : ∃ V, Bsm.cnt (Bsm.bit ws) f (64 - s) = V := ⟨_, rfl⟩
  obtain ⟨V2, hV2⟩ : ∃ V, Bsm.cnt (Bsm.bit ws) (64 * (q + 1)) (64 * (e - (q + 1))) = V := ⟨_, rfl⟩
  obtain ⟨V3, hV3⟩ : ∃ V, Bsm.cnt (Bsm.bit ws) (64 * e) o = V := ⟨_, rfl⟩
  have hsum : Bsm.cnt (Bsm.bit ws) f (t - f) = V1 + V2 + V3 := by
    rw [show t - f = (64 - s) + (64 * (e - (q + 1)) + o) from by omega, Bsm.cnt_add, Bsm.cnt_add, hV1, show f + (64 - s) = 64 * (q + 1) from by omega, hV2, show 64 * (q + 1) + 64 * (e - (q + 1)) = 64 * e from by omega, hV3, Nat.add_assoc]
  rw [hsum]
  have hVl1 := Bsm.cnt_le (Bsm.bit ws) f (64 - s)
  have hVl2 := Bsm.cnt_le (Bsm.bit ws) (64 * (q + 1)) (64 * (e - (q + 1)))
  have hVl3 := Bsm.cnt_le (Bsm.bit ws) (64 * e) o
  rw [hV1] at hpc hVl1
  rw [hV2] at hVl2
  rw [hV3] at hVl3
  have hV1l : V1 ≤ 64 := by omega
  have hV2l : V2 ≤ 1000000 := by omega
  have hV3l : V3 ≤ 64 := by omega
  have HPC := Lib.hid hpc
  have HV2 := Lib.hid hV2
  have HV3 := Lib.hid hV3
  have HS := Lib.hid hS
  have HC2 := Lib.hid c2
  have HLT := Lib.hid hlt
  have HMO := Lib.hid hmo
  have HMO1 := Lib.hid hmo1
  have HN := Lib.hid hn
  have hne : ((q : Int) == (e : Int)) = false := by simp; omega
  have hsg : IntKind.u64.signed = false := rfl
  clear hb hwl hlt c2 hS hq he hs ho hms hms1 hmo hmo1 hX hXX hM hM1 hZ hV1 hV2 hV3 hVl1 hVl2 hVl3 hpc hword hn hsum hqe
  have HOE := Lib.hid hoe
  clear hoe
  by_cases hmid : q + 1 < e
  · by_cases hlast : 0 < o
    · have hmi : (q : Int) + 1 < (e : Int) := by omega
      have HSC := Lib.hid (HS.out.cut (q + 1) e hmid hen)
      rw [Nat.zero_add] at HSC
      have HVC : Hid (Bsm.cnt (Bsm.bit ((ws.drop (q + 1)).take (e - (q + 1)))) 0 (64 * ((ws.drop (q + 1)).take (e - (q + 1))).length) = V2) := by
        have hl : ((ws.drop (q + 1)).take (e - (q + 1))).length = e - (q + 1) := by rw [List.length_take, List.length_drop, HN.out]; omega
        rw [hl, ← HV2.out]
        exact Bsm.cnt_congr _ _ _ _ _ fun j hj => by rw [Nat.zero_add, Bsm.bit_cut _ _ _ _ hj]
      have HLC : Hid (((ws.drop (q + 1)).take (e - (q + 1))).length ≤ 10000) := show _ ≤ _ by rw [List.length_take, List.length_drop, HN.out]; omega
      have HLTC : Hid (∀ j, ((ws.drop (q + 1)).take (e - (q + 1))).getD j 0 < 18446744073709551616) := fun j => by
        by_cases hj : j < e - (q + 1)
        · have := HLT.out (q + 1 + j)
          simpa [List.getD_eq_getElem?_getD, List.getElem?_take, List.getElem?_drop, hj] using this
        · rw [List.getD_eq_getElem?_getD, List.getElem?_eq_none (by rw [List.length_take]; omega)]; simp
      have HV20 : Hid (0 ≤ V2) := Nat.zero_le _
      have hen2 : e < n := HOE.out hlast
      have hY := HLT.out e
      have hcell2 := HC2.out e hen2
      have hpc2 := pc_low (ws.getD e 0) o (by omega)
      rw [HMO.out, Bsm.cnt_in_word ws e 0 o (by omega), Nat.add_zero, HV3.out] at hpc2
      obtain ⟨Y, hYY⟩ : ∃ Y, ws.getD e 0 = Y := ⟨_, rfl⟩
      rw [hYY] at hY hcell2 hpc2
      have hz2 : bits BinOp.and IntKind.u64 (Y : Int) (mo : Int) = ((Y &&& mo : Nat) : Int) := u64_and_nat Y mo hY HMO1.out
      have HZL2 := Lib.hid (and_lt Y mo hY)
      obtain ⟨Z2, hZ2⟩ : ∃ Z, Y &&& mo = Z := ⟨_, rfl⟩
      rw [hZ2] at hz2 hpc2 HZL2
      have HPC2 := Lib.hid hpc2
      have HV30 : Hid (0 ≤ V3) := Nat.zero_le _
      clear hpc2 hY hYY hZ2
      go_enter Try.func75, Try.ntmps75
      go_wp2_with fail
      refine (notnull_any _ _).mono ?_
      rintro e w' ⟨rfl, rfl⟩
      go_wp2_with fail
      refine (ones_eq Z V1 HPC.out _ HZL.out).mono ?_
      rintro e w' ⟨rfl, rfl⟩
      go_wp2_with fail
      refine (popsl_any _ _ _ HSC.out HLC.out HLTC.out).mono ?_
      rintro e w' ⟨rfl, mq, rfl⟩
      rw [HVC.out]
      go_wp2_with fail
      refine (ones_eq Z2 V3 HPC2.out _ HZL2.out).mono ?_
      rintro e w' ⟨rfl, rfl⟩
      go_wp2_with fail
      go_ret
      exact ⟨ret_int (by have := HV20.out; have := HV30.out; omega), _, by first | rfl | exact (World.drewN_zero _).symm⟩
    · have hmi : (q : Int) + 1 < (e : Int) := by omega
      have HSC := Lib.hid (HS.out.cut (q + 1) e hmid hen)
      rw [Nat.zero_add] at HSC
      have HVC : Hid (Bsm.cnt (Bsm.bit ((ws.drop (q + 1)).take (e - (q + 1)))) 0 (64 * ((ws.drop (q + 1)).take (e - (q + 1))).length) = V2) := by
        have hl : ((ws.drop (q + 1)).take (e - (q + 1))).length = e - (q + 1) := by rw [List.length_take, List.length_drop, HN.out]; omega
        rw [hl, ← HV2.out]
        exact Bsm.cnt_congr _ _ _ _ _ fun j hj => by rw [Nat.zero_add, Bsm.bit_cut _ _ _ _ hj]
      have HLC : Hid (((ws.drop (q + 1)).take (e - (q + 1))).length ≤ 10000) := show _ ≤ _ by rw [List.length_take, List.length_drop, HN.out]; omega
      have HLTC : Hid (∀ j, ((ws.drop (q + 1)).take (e - (q + 1))).getD j 0 < 18446744073709551616) := fun j => by
        by_cases hj : j < e - (q + 1)
        · have := HLT.out (q + 1 + j)
          simpa [List.getD_eq_getElem?_getD, List.getElem?_take, List.getElem?_drop, hj] using this
        · rw [List.getD_eq_getElem?_getD, List.getElem?_eq_none (by rw [List.length_take]; omega)]; simp
      have HV20 : Hid (0 ≤ V2) := Nat.zero_le _
      have HV30 : Hid (V3 = 0) := by
        have := HV3.out
        rw [show o = 0 from by omega] at this
        exact this.symm.trans (Bsm.cnt_zero _ _)
      have hl0 : decide (0 < o) = false := by simp; omega
      have HO := Lib.hid hlast
      clear hlast
      go_enter Try.func75, Try.ntmps75
      go_wp2_with fail
      refine (notnull_any _ _).mono ?_
      rintro e w' ⟨rfl, rfl⟩
      go_wp2_with fail
      refine (ones_eq Z V1 HPC.out _ HZL.out).mono ?_
      rintro e w' ⟨rfl, rfl⟩
      go_wp2_with fail
      refine (popsl_any _ _ _ HSC.out HLC.out HLTC.out).mono ?_
      rintro e w' ⟨rfl, mq, rfl⟩
      rw [HVC.out]
      go_wp2_with fail
      go_ret
      exact ⟨ret_int (by have := HV20.out; have := HV30.out; omega), _, by first | rfl | exact (World.drewN_zero _).symm⟩
  · by_cases hlast : 0 < o
    · have HV20 : Hid (V2 = 0) := by
        have := HV2.out
        rw [show e - (q + 1) = 0 from by omega] at this
        exact this.symm.trans (Bsm.cnt_zero _ _)
      have hmi : ¬ (q : Int) + 1 < (e : Int) := by omega
      have hen2 : e < n := HOE.out hlast
      have hY := HLT.out e
      have hcell2 := HC2.out e hen2
      have hpc2 := pc_low (ws.getD e 0) o (by omega)
      rw [HMO.out, Bsm.cnt_in_word ws e 0 o (by omega), Nat.add_zero, HV3.out] at hpc2
      obtain ⟨Y, hYY⟩ : ∃ Y, ws.getD e 0 = Y := ⟨_, rfl⟩
      rw [hYY] at hY hcell2 hpc2
      have hz2 : bits BinOp.and IntKind.u64 (Y : Int) (mo : Int) = ((Y &&& mo : Nat) : Int) := u64_and_nat Y mo hY HMO1.out
      have HZL2 := Lib.hid (and_lt Y mo hY)
      obtain ⟨Z2, hZ2⟩ : ∃ Z, Y &&& mo = Z := ⟨_, rfl⟩
      rw [hZ2] at hz2 hpc2 HZL2
      have HPC2 := Lib.hid hpc2
      have HV30 : Hid (0 ≤ V3) := Nat.zero_le _
      clear hpc2 hY hYY hZ2
      go_enter Try.func75, Try.ntmps75
      go_wp2_with fail
      refine (notnull_any _ _).mono ?_
      rintro e w' ⟨rfl, rfl⟩
      go_wp2_with fail
      refine (ones_eq Z V1 HPC.out _ HZL.out).mono ?_
      rintro e w' ⟨rfl, rfl⟩
      go_wp2_with fail
      refine (ones_eq Z2 V3 HPC2.out _ HZL2.out).mono ?_
      rintro e w' ⟨rfl, rfl⟩
      go_wp2_with fail
      go_ret
      exact ⟨ret_int (by have := HV20.out; have := HV30.out; omega), _, by first | rfl | exact (World.drewN_zero _).symm⟩
    · have HV20 : Hid (V2 = 0) := by
        have := HV2.out
        rw [show e - (q + 1) = 0 from by omega] at this
        exact this.symm.trans (Bsm.cnt_zero _ _)
      have hmi : ¬ (q : Int) + 1 < (e : Int) := by omega
      have HV30 : Hid (V3 = 0) := by
        have := HV3.out
        rw [show o = 0 from by omega] at this
        exact this.symm.trans (Bsm.cnt_zero _ _)
      have hl0 : decide (0 < o) = false := by simp; omega
      have HO := Lib.hid hlast
      clear hlast
      go_enter Try.func75, Try.ntmps75
      go_wp2_with fail
      refine (notnull_any _ _).mono ?_
      rintro e w' ⟨rfl, rfl⟩
      go_wp2_with fail
      refine (ones_eq Z V1 HPC.out _ HZL.out).mono ?_
      rintro e w' ⟨rfl, rfl⟩
      go_wp2_with fail
      go_ret
      exact ⟨ret_int (by have := HV20.out; have := HV30.out; omega), _, by first | rfl | exact (World.drewN_zero _).symm⟩

set_option maxRecDepth 100000 in
set_option maxHeartbeats 8000000 in
theorem between_none_hi (B p L f t : Nat) (ws : List Nat) (cap : Nat) (w : World) (hb : Bs B w p L ws cap) (hwl : ws.length = (L + 63) / 64) (hL : L ≤ 10000) (ht5 : t ≤ 10000) (ht : L < t) (hft : L ≤ f) (hf6 : f ≤ 10000) :
    Calls Try.prog 75 #[.pointer (some ⟨p, 0, none⟩), .int .u64 (f : Int), .int .u64 (t : Int)] w
      fun e w' => e = .returned (.int .u64 (Bsm.cnt (Bsm.bit ws) f (L - f) : Nat)) ∧ ∃ m, w' = w.drewN m := by
  have e0 : Bsm.cnt (Bsm.bit ws) f (L - f) = 0 := by rw [show L - f = 0 from by omega]; exact Bsm.cnt_zero _ _
  rw [e0]
  obtain ⟨g, c0, c1, _⟩ := hb.sl
  clear hb e0 hwl
  go_enter Try.func75, Try.ntmps75
  go_wp2_with fail
  refine (notnull_any _ _).mono ?_
  rintro e w' ⟨rfl, rfl⟩
  go_wp2_with fail
  go_ret
  exact ⟨rfl, 0, rfl⟩

set_option maxRecDepth 100000 in
set_option maxHeartbeats 8000000 in
theorem between_one_hi (B p L f t : Nat) (ws : List Nat) (cap : Nat) (w : World) (hb : Bs B w p L ws cap) (hwl : ws.length = (L + 63) / 64) (hL : L ≤ 10000) (ht5 : t ≤ 10000) (ht : L < t) (hft : f < L) (hword : f / 64 = L / 64) :
    Calls Try.prog 75 #[.pointer (some ⟨p, 0, none⟩), .int .u64 (f : Int), .int .u64 (t : Int)] w
      fun e w' => e = .returned (.int .u64 (Bsm.cnt (Bsm.bit ws) f (L - f) : Nat)) ∧ ∃ m, w' = w.drewN m := by
  obtain ⟨g, c0, c1, hS, _⟩ := hb.sl
  obtain ⟨n, hn⟩ : ∃ n, ws.length = n := ⟨_, rfl⟩
  have hlt := hb.word_lt
  obtain ⟨g', d0, d1, c2⟩ := hb.cells
  rw [c1] at d1
  simp only [Option.some.injEq, Value.slice.injEq, Addr.mk.injEq, and_true, true_and] at d1
  subst d1
  obtain ⟨q, hq⟩ : ∃ q, f / 64 = q := ⟨_, rfl⟩
  obtain ⟨e, he⟩ : ∃ e, L / 64 = e := ⟨_, rfl⟩
  obtain ⟨s, hs⟩ : ∃ s, f % 64 = s := ⟨_, rfl⟩
  obtain ⟨o, ho⟩ : ∃ o, L % 64 = o := ⟨_, rfl⟩
  have hs1 : s < 64 := by omega
  have ho1 : o < 64 := by omega
  have hq1 : (f : Int) / 64 = (q : Int) := by omega
  have he1 : (L : Int) / 64 = (e : Int) := by omega
  have hs2 : bits BinOp.and IntKind.u64 (f : Int) 63 = (s : Int) := by have := u64_and_nat f 63 (by omega) (by omega); rw [and63, hs] at this; exact this
  have ho2 : bits BinOp.and IntKind.u64 (L : Int) 63 = (o : Int) := by have := u64_and_nat L 63 (by omega) (by omega); rw [and63, ho] at this; exact this
  obtain ⟨ms, hms⟩ : ∃ ms, 2 ^ s - 1 = ms := ⟨_, rfl⟩
  obtain ⟨mo, hmo⟩ : ∃ mo, 2 ^ o - 1 = mo := ⟨_, rfl⟩
  have hms1 : ms < 18446744073709551616 := by rw [← hms]; exact mask_lt s (by omega)
  have hmo1 : mo < 18446744073709551616 := by rw [← hmo]; exact mask_lt o (by omega)
  have hws : IntKind.u64.wrap (IntKind.u64.wrap ((2 : Int) ^ s) - 1) = (ms : Int) := by rw [← hms]; exact one_shl s hs1
  have hwo : IntKind.u64.wrap (IntKind.u64.wrap ((2 : Int) ^ o) - 1) = (mo : Int) := by rw [← hmo]; exact one_shl o ho1
  rw [hn] at c1 hS c2
  have hqe : q ≤ e := by omega
  have hen : e ≤ n := by omega
  have hqn : q < n := by omega
  have hoe : 0 < o → e < n := by intro h; omega
  have hn5 : n ≤ 10000 := by omega
  have hf5 : f ≤ 10000 := by omega
  obtain rfl : q = e := by omega
  have hX := hlt q
  have hcell := c2 q hqn
  have hmask : bits BinOp.andNot IntKind.u64 (mo : Int) (ms : Int) = ((mo &&& (18446744073709551615 - ms) : Nat) : Int) := u64_andNot_nat mo ms hmo1 hms1
  have hpc := pc_mid (ws.getD q 0) s o (by omega) (by omega)
  rw [hms, hmo, Bsm.cnt_in_word ws q s (o - s) (by omega), show 64 * q + s = f from by omega, show o - s = L - f from by omega] at hpc
  obtain ⟨X, hXX⟩ : ∃ X, ws.getD q 0 = X := ⟨_, rfl⟩
  rw [hXX] at hX hcell hpc
  obtain ⟨M, hM⟩ : ∃ M, mo &&& (18446744073709551615 - ms) = M := ⟨_, rfl⟩
  rw [hM] at hmask hpc
  have hM1 : M < 18446744073709551616 := by rw [← hM]; exact and_lt _ _ hmo1
  have hz : bits BinOp.and IntKind.u64 (X : Int) (M : Int) = ((X &&& M : Nat) : Int) := u64_and_nat X M hX hM1
  have HZL := Lib.hid (and_lt X M hX)
  obtain ⟨Z, hZ⟩ : ∃ Z, X &&& M = Z := ⟨_, rfl⟩
  rw [hZ] at hz hpc HZL
  obtain ⟨V, hV⟩ : ∃ V, Bsm.cnt (Bsm.bit ws) f (L - f) = V := ⟨_, rfl⟩
  have hVl := Bsm.cnt_le (Bsm.bit ws) f (L - f)
  rw [hV] at hpc hVl ⊢
  have hV2 : V ≤ 10000 := by omega
  have HPC := Lib.hid hpc
  clear hb hwl hlt c2 hS hq he hs ho hms hmo hms1 hmo1 hX hXX hM hM1 hZ hV hVl hpc hoe hword hn
  go_enter Try.func75, Try.ntmps75
  go_wp2_with fail
  refine (notnull_any _ _).mono ?_
  rintro e w' ⟨rfl, rfl⟩
  go_wp2_with fail
  refine (ones_eq Z V HPC.out _ HZL.out).mono ?_
  rintro e w' ⟨rfl, rfl⟩
  go_wp2_with fail
  go_ret
  exact ⟨rfl, 0, rfl⟩

set_option maxRecDepth 100000 in
set_option maxHeartbeats 8000000 in
theorem between_two_hi (B p L f t : Nat) (ws : List Nat) (cap : Nat) (w : World) (hb : Bs B w p L ws cap) (hwl : ws.length = (L + 63) / 64) (hL : L ≤ 10000) (ht5 : t ≤ 10000) (ht : L < t) (hft : f < L) (hword : f / 64 < L / 64) :
    Calls Try.prog 75 #[.pointer (some ⟨p, 0, none⟩), .int .u64 (f : Int), .int .u64 (t : Int)] w
      fun e w' => e = .returned (.int .u64 (Bsm.cnt (Bsm.bit ws) f (L - f) : Nat)) ∧ ∃ m, w' = w.drewN m := by
  obtain ⟨g, c0, c1, hS, _⟩ := hb.sl
  obtain ⟨n, hn⟩ : ∃ n, ws.length = n := ⟨_, rfl⟩
  have hlt := hb.word_lt
  obtain ⟨g', d0, d1, c2⟩ := hb.cells
  rw [c1] at d1
  simp only [Option.some.injEq, Value.slice.injEq, Addr.mk.injEq, and_true, true_and] at d1
  subst d1
  obtain ⟨q, hq⟩ : ∃ q, f / 64 = q := ⟨_, rfl⟩
  obtain ⟨e, he⟩ : ∃ e, L / 64 = e := ⟨_, rfl⟩
  obtain ⟨s, hs⟩ : ∃ s, f % 64 = s := ⟨_, rfl⟩
  obtain ⟨o, ho⟩ : ∃ o, L % 64 = o := ⟨_, rfl⟩
  have hs1 : s < 64 := by omega
  have ho1 : o < 64 := by omega
  have hq1 : (f : Int) / 64 = (q : Int) := by omega
  have he1 : (L : Int) / 64 = (e : Int) := by omega
  have hs2 : bits BinOp.and IntKind.u64 (f : Int) 63 = (s : Int) := by have := u64_and_nat f 63 (by omega) (by omega); rw [and63, hs] at this; exact this
  have ho2 : bits BinOp.and IntKind.u64 (L : Int) 63 = (o : Int) := by have := u64_and_nat L 63 (by omega) (by omega); rw [and63, ho] at this; exact this
  obtain ⟨ms, hms⟩ : ∃ ms, 2 ^ s - 1 = ms := ⟨_, rfl⟩
  obtain ⟨mo, hmo⟩ : ∃ mo, 2 ^ o - 1 = mo := ⟨_, rfl⟩
  have hms1 : ms < 18446744073709551616 := by rw [← hms]; exact mask_lt s (by omega)
  have hmo1 : mo < 18446744073709551616 := by rw [← hmo]; exact mask_lt o (by omega)
  have hws : IntKind.u64.wrap (IntKind.u64.wrap ((2 : Int) ^ s) - 1) = (ms : Int) := by rw [← hms]; exact one_shl s hs1
  have hwo : IntKind.u64.wrap (IntKind.u64.wrap ((2 : Int) ^ o) - 1) = (mo : Int) := by rw [← hmo]; exact one_shl o ho1
  rw [hn] at c1 hS c2
  have hqe : q ≤ e := by omega
  have hen : e ≤ n := by omega
  have hqn : q < n := by omega
  have hoe : 0 < o → e < n := by intro h; omega
  have hn5 : n ≤ 10000 := by omega
  have hf5 : f ≤ 10000 := by omega
  have hqe2 : q < e := by omega
  have hX := hlt q
  have hcell := c2 q hqn
  have hcap : n ≤ cap ∧ cap ≤ maxLen := by obtain ⟨a, m, c, eq, _, h2, h3, _⟩ := hS; simp only [Value.slice.injEq] at eq; omega
  obtain ⟨hcap1, hcap2⟩ := hcap
  unfold maxLen at hcap2
  have hnot : bits BinOp.xor IntKind.u64 IntKind.u64.max (ms : Int) = ((18446744073709551615 - ms : Nat) : Int) := not_word ms hms1
  have hpc := pc_high (ws.getD q 0) s (by omega)
  rw [hms, Bsm.cnt_in_word ws q s (64 - s) (by omega), show 64 * q + s = f from by omega] at hpc
  obtain ⟨X, hXX⟩ : ∃ X, ws.getD q 0 = X := ⟨_, rfl⟩
  rw [hXX] at hX hcell hpc
  obtain ⟨M, hM⟩ : ∃ M, 18446744073709551615 - ms = M := ⟨_, rfl⟩
  rw [hM] at hnot hpc
  have hM1 : M < 18446744073709551616 := by omega
  have hz : bits BinOp.and IntKind.u64 (X : Int) (M : Int) = ((X &&& M : Nat) : Int) := u64_and_nat X M hX hM1
  have HZL := Lib.hid (and_lt X M hX)
  obtain ⟨Z, hZ⟩ : ∃ Z, X &&& M = Z := ⟨_, rfl⟩
  rw [hZ] at hz hpc HZL
  obtain ⟨V1, hV1⟩ : ∃ V, Bsm.cnt (Bsm.bit ws) f (64 - s) = V := ⟨_, rfl⟩
  obtain ⟨V2, hV2⟩ : ∃ V, Bsm.cnt (Bsm.bit ws) (64 * (q + 1)) (64 * (e - (q + 1))) = V := ⟨_, rfl⟩
  obtain ⟨V3, hV3⟩ : ∃ V, Bsm.cnt (Bsm.bit ws) (64 * e) o = V := ⟨_, rfl⟩
  have hsum : Bsm.cnt (Bsm.bit ws) f (L - f) = V1 + V2 + V3 := by
    rw [show L - f = (64 - s) + (64 * (e - (q + 1)) + o) from by omega, Bsm.cnt_add, Bsm.cnt_add, hV1, show f + (64 - s) = 64 * (q + 1) from by omega, hV2, show 64 * (q + 1) + 64 * (e - (q + 1)) = 64 * e from by omega, hV3, Nat.add_assoc]
  rw [hsum]
  have hVl1 := Bsm.cnt_le (Bsm.bit ws) f (64 - s)
  have hVl2 := Bsm.cnt_le (Bsm.bit ws) (64 * (q + 1)) (64 * (e - (q + 1)))
  have hVl3 := Bsm.cnt_le (Bsm.bit ws) (64 * e) o
  rw [hV1] at hpc hVl1
  rw [hV2] at hVl2
  rw [hV3] at hVl3
  have hV1l : V1 ≤ 64 := by omega
  have hV2l : V2 ≤ 1000000 := by omega
  have hV3l : V3 ≤ 64 := by omega
  have HPC := Lib.hid hpc
  have HV2 := Lib.hid hV2
  have HV3 := Lib.hid hV3
  have HS := Lib.hid hS
  have HC2 := Lib.hid c2
  have HLT := Lib.hid hlt
  have HMO := Lib.hid hmo
  have HMO1 := Lib.hid hmo1
  have HN := Lib.hid hn
  have hne : ((q : Int) == (e : Int)) = false := by simp; omega
  have hsg : IntKind.u64.signed = false := rfl
  clear hb hwl hlt c2 hS hq he hs ho hms hms1 hmo hmo1 hX hXX hM hM1 hZ hV1 hV2 hV3 hVl1 hVl2 hVl3 hpc hword hn hsum hqe
  have HOE := Lib.hid hoe
  clear hoe
  by_cases hmid : q + 1 < e
  · by_cases hlast : 0 < o
    · have hmi : (q : Int) + 1 < (e : Int) := by omega
      have HSC := Lib.hid (HS.out.cut (q + 1) e hmid hen)
      rw [Nat.zero_add] at HSC
      have HVC : Hid (Bsm.cnt (Bsm.bit ((ws.drop (q + 1)).take (e - (q + 1)))) 0 (64 * ((ws.drop (q + 1)).take (e - (q + 1))).length) = V2) := by
        have hl : ((ws.drop (q + 1)).take (e - (q + 1))).length = e - (q + 1) := by rw [List.length_take, List.length_drop, HN.out]; omega
        rw [hl, ← HV2.out]
        exact Bsm.cnt_congr _ _ _ _ _ fun j hj => by rw [Nat.zero_add, Bsm.bit_cut _ _ _ _ hj]
      have HLC : Hid (((ws.drop (q + 1)).take (e - (q + 1))).length ≤ 10000) := show _ ≤ _ by rw [List.length_take, List.length_drop, HN.out]; omega
      have HLTC : Hid (∀ j, ((ws.drop (q + 1)).take (e - (q + 1))).getD j 0 < 18446744073709551616) := fun j => by
        by_cases hj : j < e - (q + 1)
        · have := HLT.out (q + 1 + j)
          simpa [List.getD_eq_getElem?_getD, List.getElem?_take, List.getElem?_drop, hj] using this
        · rw [List.getD_eq_getElem?_getD, List.getElem?_eq_none (by rw [List.length_take]; omega)]; simp
      have HV20 : Hid (0 ≤ V2) := Nat.zero_le _
      have hen2 : e < n := HOE.out hlast
      have hY := HLT.out e
      have hcell2 := HC2.out e hen2
      have hpc2 := pc_low (ws.getD e 0) o (by omega)
      rw [HMO.out, Bsm.cnt_in_word ws e 0 o (by omega), Nat.add_zero, HV3.out] at hpc2
      obtain ⟨Y, hYY⟩ : ∃ Y, ws.getD e 0 = Y := ⟨_, rfl⟩
      rw [hYY] at hY hcell2 hpc2
      have hz2 : bits BinOp.and IntKind.u64 (Y : Int) (mo : Int) = ((Y &&& mo : Nat) : Int) := u64_and_nat Y mo hY HMO1.out
      have HZL2 := Lib.hid (and_lt Y mo hY)
      obtain ⟨Z2, hZ2⟩ : ∃ Z, Y &&& mo = Z := ⟨_, rfl⟩
      rw [hZ2] at hz2 hpc2 HZL2
      have HPC2 := Lib.hid hpc2
      have HV30 : Hid (0 ≤ V3) := Nat.zero_le _
      clear hpc2 hY hYY hZ2
      go_enter Try.func75, Try.ntmps75
      go_wp2_with fail
      refine (notnull_any _ _).mono ?_
      rintro e w' ⟨rfl, rfl⟩
      go_wp2_with fail
      refine (ones_eq Z V1 HPC.out _ HZL.out).mono ?_
      rintro e w' ⟨rfl, rfl⟩
      go_wp2_with fail
      refine (popsl_any _ _ _ HSC.out HLC.out HLTC.out).mono ?_
      rintro e w' ⟨rfl, mq, rfl⟩
      rw [HVC.out]
      go_wp2_with fail
      refine (ones_eq Z2 V3 HPC2.out _ HZL2.out).mono ?_
      rintro e w' ⟨rfl, rfl⟩
      go_wp2_with fail
      go_ret
      exact ⟨ret_int (by have := HV20.out; have := HV30.out; omega), _, by first | rfl | exact (World.drewN_zero _).symm⟩
    · have hmi : (q : Int) + 1 < (e : Int) := by omega
      have HSC := Lib.hid (HS.out.cut (q + 1) e hmid hen)
      rw [Nat.zero_add] at HSC
      have HVC : Hid (Bsm.cnt (Bsm.bit ((ws.drop (q + 1)).take (e - (q + 1)))) 0 (64 * ((ws.drop (q + 1)).take (e - (q + 1))).length) = V2) := by
        have hl : ((ws.drop (q + 1)).take (e - (q + 1))).length = e - (q + 1) := by rw [List.length_take, List.length_drop, HN.out]; omega
        rw [hl, ← HV2.out]
        exact Bsm.cnt_congr _ _ _ _ _ fun j hj => by rw [Nat.zero_add, Bsm.bit_cut _ _ _ _ hj]
      have HLC : Hid (((ws.drop (q + 1)).take (e - (q + 1))).length ≤ 10000) := show _ ≤ _ by rw [List.length_take, List.length_drop, HN.out]; omega
      have HLTC : Hid (∀ j, ((ws.drop (q + 1)).take (e - (q + 1))).getD j 0 < 18446744073709551616) := fun j => by
        by_cases hj : j < e - (q + 1)
        · have := HLT.out (q + 1 + j)
          simpa [List.getD_eq_getElem?_getD, List.getElem?_take, List.getElem?_drop, hj] using this
        · rw [List.getD_eq_getElem?_getD, List.getElem?_eq_none (by rw [List.length_take]; omega)]; simp
      have HV20 : Hid (0 ≤ V2) := Nat.zero_le _
      have HV30 : Hid (V3 = 0) := by
        have := HV3.out
        rw [show o = 0 from by omega] at this
        exact this.symm.trans (Bsm.cnt_zero _ _)
      have hl0 : decide (0 < o) = false := by simp; omega
      have HO := Lib.hid hlast
      clear hlast
      go_enter Try.func75, Try.ntmps75
      go_wp2_with fail
      refine (notnull_any _ _).mono ?_
      rintro e w' ⟨rfl, rfl⟩
      go_wp2_with fail
      refine (ones_eq Z V1 HPC.out _ HZL.out).mono ?_
      rintro e w' ⟨rfl, rfl⟩
      go_wp2_with fail
      refine (popsl_any _ _ _ HSC.out HLC.out HLTC.out).mono ?_
      rintro e w' ⟨rfl, mq, rfl⟩
      rw [HVC.out]
      go_wp2_with fail
      go_ret
      exact ⟨ret_int (by have := HV20.out; have := HV30.out; omega), _, by first | rfl | exact (World.drewN_zero _).symm⟩
  · by_cases hlast : 0 < o
    · have HV20 : Hid (V2 = 0) := by
        have := HV2.out
        rw [show e - (q + 1) = 0 from by omega] at this
        exact this.symm.trans (Bsm.cnt_zero _ _)
      have hmi : ¬ (q : Int) + 1 < (e : Int) := by omega
      have hen2 : e < n := HOE.out hlast
      have hY := HLT.out e
      have hcell2 := HC2.out e hen2
      have hpc2 := pc_low (ws.getD e 0) o (by omega)
      rw [HMO.out, Bsm.cnt_in_word ws e 0 o (by omega), Nat.add_zero, HV3.out] at hpc2
      obtain ⟨Y, hYY⟩ : ∃ Y, ws.getD e 0 = Y := ⟨_, rfl⟩
      rw [hYY] at hY hcell2 hpc2
      have hz2 : bits BinOp.and IntKind.u64 (Y : Int) (mo : Int) = ((Y &&& mo : Nat) : Int) := u64_and_nat Y mo hY HMO1.out
      have HZL2 := Lib.hid (and_lt Y mo hY)
      obtain ⟨Z2, hZ2⟩ : ∃ Z, Y &&& mo = Z := ⟨_, rfl⟩
      rw [hZ2] at hz2 hpc2 HZL2
      have HPC2 := Lib.hid hpc2
      have HV30 : Hid (0 ≤ V3) := Nat.zero_le _
      clear hpc2 hY hYY hZ2
      go_enter Try.func75, Try.ntmps75
      go_wp2_with fail
      refine (notnull_any _ _).mono ?_
      rintro e w' ⟨rfl, rfl⟩
      go_wp2_with fail
      refine (ones_eq Z V1 HPC.out _ HZL.out).mono ?_
      rintro e w' ⟨rfl, rfl⟩
      go_wp2_with fail
      refine (ones_eq Z2 V3 HPC2.out _ HZL2.out).mono ?_
      rintro e w' ⟨rfl, rfl⟩
      go_wp2_with fail
      go_ret
      exact ⟨ret_int (by have := HV20.out; have := HV30.out; omega), _, by first | rfl | exact (World.drewN_zero _).symm⟩
    · have HV20 : Hid (V2 = 0) := by
        have := HV2.out
        rw [show e - (q + 1) = 0 from by omega] at this
        exact this.symm.trans (Bsm.cnt_zero _ _)
      have hmi : ¬ (q : Int) + 1 < (e : Int) := by omega
      have HV30 : Hid (V3 = 0) := by
        have := HV3.out
        rw [show o = 0 from by omega] at this
        exact this.symm.trans (Bsm.cnt_zero _ _)
      have hl0 : decide (0 < o) = false := by simp; omega
      have HO := Lib.hid hlast
      clear hlast
      go_enter Try.func75, Try.ntmps75
      go_wp2_with fail
      refine (notnull_any _ _).mono ?_
      rintro e w' ⟨rfl, rfl⟩
      go_wp2_with fail
      refine (ones_eq Z V1 HPC.out _ HZL.out).mono ?_
      rintro e w' ⟨rfl, rfl⟩
      go_wp2_with fail
      go_ret
      exact ⟨ret_int (by have := HV20.out; have := HV30.out; omega), _, by first | rfl | exact (World.drewN_zero _).symm⟩
end Go.Proofs.Ytbgmkojiklphmaa
