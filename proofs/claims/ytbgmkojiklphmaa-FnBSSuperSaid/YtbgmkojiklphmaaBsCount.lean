/- Counting bits: spec.BSCount; the plain laws of counts. -/
import Derived.Test.YtbgmkojiklphmaaBsPop
namespace Go.Proofs.Ytbgmkojiklphmaa
set_option linter.unusedVariables false
open Go.RowKit

/-- how many of n places from a on hold -/
def Bsm.cnt (f : Nat → Bool) (a : Nat) : Nat → Nat
  | 0 => 0
  | n + 1 => Bsm.cnt f a n + (if f (a + n) then 1 else 0)
theorem Bsm.cnt_yes (f : Nat → Bool) (a n : Nat) (h : f (a + n) = true) : Bsm.cnt f a (n + 1) = Bsm.cnt f a n + 1 := by
  simp only [Bsm.cnt]; rw [if_pos h]
theorem Bsm.cnt_no (f : Nat → Bool) (a n : Nat) (h : f (a + n) = false) : Bsm.cnt f a (n + 1) = Bsm.cnt f a n := by
  simp only [Bsm.cnt]; rw [if_neg (by rw [h]; decide)]; rfl
theorem Bsm.cnt_le (f : Nat → Bool) (a n : Nat) : Bsm.cnt f a n ≤ n := by
  induction n with
  | zero => simp [Bsm.cnt]
  | succ n ih => simp only [Bsm.cnt]; split <;> omega
theorem Bsm.cnt_add (f : Nat → Bool) (a m n : Nat) : Bsm.cnt f a (m + n) = Bsm.cnt f a m + Bsm.cnt f (a + m) n := by
  induction n with
  | zero => simp [Bsm.cnt]
  | succ n ih => rw [← Nat.add_assoc]; simp only [Bsm.cnt]; rw [ih, Nat.add_assoc a m n]; omega
theorem Bsm.cnt_congr (f g : Nat → Bool) (a b n : Nat) (h : ∀ j, j < n → f (a + j) = g (b + j)) : Bsm.cnt f a n = Bsm.cnt g b n := by
  induction n with
  | zero => rfl
  | succ n ih => simp only [Bsm.cnt]; rw [ih (fun j hj => h j (by omega)), h n (by omega)]
theorem Bsm.cnt_none (f : Nat → Bool) (a n : Nat) (h : ∀ j, j < n → f (a + j) = false) : Bsm.cnt f a n = 0 := by
  induction n with
  | zero => rfl
  | succ n ih => simp only [Bsm.cnt]; rw [ih (fun j hj => h j (by omega)), h n (by omega)]; rfl
/-- places that are not set do not count -/
theorem Bsm.cnt_more (f : Nat → Bool) (a m n : Nat) (hmn : m ≤ n) (h : ∀ j, m ≤ j → j < n → f (a + j) = false) : Bsm.cnt f a n = Bsm.cnt f a m := by
  have e : n = m + (n - m) := by omega
  rw [e, Bsm.cnt_add, Bsm.cnt_none f (a + m) (n - m) (fun j hj => by rw [Nat.add_assoc]; exact h (m + j) (by omega) (by omega))]
  rfl
theorem Bsm.cnt_succ' (f : Nat → Bool) (a n : Nat) : Bsm.cnt f a (n + 1) = (if f a then 1 else 0) + Bsm.cnt f (a + 1) n := by
  rw [Nat.add_comm n 1, Bsm.cnt_add]; simp [Bsm.cnt]
theorem Bsm.pc_cnt (k x : Nat) : Pop.pc k x = Bsm.cnt (fun j => x.testBit j) 0 k := by
  induction k generalizing x with
  | zero => rfl
  | succ k ih =>
    rw [Bsm.cnt_succ']
    simp only [Pop.pc]
    rw [ih]
    congr 1
    · rw [Nat.testBit_zero]
      by_cases h : x % 2 = 1
      · simp [h]
      · have : x % 2 = 0 := by omega
        simp [this]
    · exact Bsm.cnt_congr _ _ _ _ _ (fun j _ => by rw [Nat.zero_add, Nat.zero_add, Nat.add_comm 1 j, Nat.testBit_succ])
/-- a word's bits -/
theorem Bsm.pc_word (ws : List Nat) (q : Nat) : Pop.pc 64 (ws.getD q 0) = Bsm.cnt (Bsm.bit ws) (64 * q) 64 := by
  rw [Bsm.pc_cnt]
  refine Bsm.cnt_congr _ _ _ _ _ (fun j hj => ?_)
  unfold Bsm.bit
  rw [Nat.zero_add, show (64 * q + j) / 64 = q from by omega, show (64 * q + j) % 64 = j from by omega]
/-- the lowest k + 1 bits of a word, shifted up -/
theorem Bsm.pc_low (x k : Nat) (hk : k < 64) : Pop.pc 64 (x * 2 ^ (63 - k) % 18446744073709551616) = Bsm.cnt (fun j => x.testBit j) 0 (k + 1) := by
  rw [Bsm.pc_cnt, show (64 : Nat) = (63 - k) + (k + 1) from by omega, Bsm.cnt_add, Bsm.cnt_none _ 0 (63 - k), Nat.zero_add]
  · refine Bsm.cnt_congr _ _ _ _ _ (fun j hj => ?_)
    rw [show (18446744073709551616 : Nat) = 2 ^ 64 from rfl, Nat.testBit_mod_two_pow, ← Nat.shiftLeft_eq, Nat.testBit_shiftLeft]
    have h1 : 0 + (63 - k) + j < 64 := by omega
    have h2 : 0 + (63 - k) + j ≥ 63 - k := by omega
    have h3 : 0 + (63 - k) + j - (63 - k) = 0 + j := by omega
    simp only [h1, h2, h3, decide_true, Bool.true_and]
  · intro j hj
    rw [show (18446744073709551616 : Nat) = 2 ^ 64 from rfl, Nat.testBit_mod_two_pow, ← Nat.shiftLeft_eq, Nat.testBit_shiftLeft]
    have h2 : ¬ (0 + j ≥ 63 - k) := by omega
    simp only [h2, decide_false, Bool.false_and, Bool.and_false]

def CountLoop (bs : List Bool) (f N : Nat) (w : World) (k : Nat) (n i : Value) (wr : World) : Prop :=
  ∃ c j x : Nat, i = .int .i64 (j : Int) ∧ f + c = j ∧ c + k = N ∧ n = .int .u64 (x : Int) ∧ Bsm.cnt (fun j => bs.getD j false) f c = x ∧ wr = w

set_option maxRecDepth 100000 in
set_option maxHeartbeats 1000000 in
theorem bscount_any (v : Value) (bs : List Bool) (f t : Nat) (T : Int) (hT : T = t) (w : World) (hv : Sl w v (bools bs)) (hn : bs.length ≤ 100000) (hf : f ≤ 100000) (ht : t ≤ 100000) :
    Calls Try.prog 32 #[v, .int .i64 (f : Int), .int .i64 T] w
      fun e w' => e = .returned (.int .u64 (Bsm.cnt (fun j => bs.getD j false) f (t - f) : Nat)) ∧ w' = w := by
  subst hT
  have hv0 := hv
  obtain ⟨a, n, cap, rfl, hl, hc, hm, hr⟩ := hv
  rw [bools_len] at hl
  obtain ⟨N, hN⟩ : ∃ N, min t n - f = N := ⟨_, rfl⟩
  have hfin : Bsm.cnt (fun j => bs.getD j false) f (t - f) = Bsm.cnt (fun j => bs.getD j false) f N := by
    refine Bsm.cnt_more _ _ _ _ (by omega) (fun j h1 h2 => Bsm.getD_out bs _ (by omega))
  rw [hfin]
  have HL := Lib.hid hl
  have HN := Lib.hid hN
  have hNt : N ≤ 100000 := by omega
  clear hfin hl hN hm hc
  go_enter Try.func32, Try.ntmps32
  go_wp2_with fail
  go_loopg [7, 8] N (fun k x i wr => CountLoop bs f N w k x i wr)
  case atStart => exact ⟨0, f, 0, rfl, rfl, by omega, rfl, rfl, rfl⟩
  case round =>
    obtain ⟨c, i, x, rfl, hfc, hck, rfl, hx, rfl⟩ := hrel
    have hxl := Bsm.cnt_le (fun j => bs.getD j false) f c
    rw [hx] at hxl
    have hx2 : x ≤ 100000 := by omega
    have HX := Lib.hid hx
    have hn2 := HN.out
    clear hx hxl
    by_cases hi : c < N
    · have hit : i < t := by omega
      have hin : i < n := by omega
      obtain ⟨b, off, rfl, hcell⟩ := hr (by omega)
      have h1 := hcell i _ (bools_at bs i (by rw [HL.out]; exact hin))
      cases gk with
      | zero => omega
      | succ k =>
        clear hr hcell hv0
        by_cases hb : bs.getD i false = true
        · have hnext : Bsm.cnt (fun j => bs.getD j false) f (c + 1) = x + 1 := by
            rw [Bsm.cnt_yes _ _ _ (by rw [hfc]; exact hb), HX.out]
          have HNX := Lib.hid hnext
          rw [hb] at h1
          clear hnext hb
          go_wp2_with fail
          go_roundg k
          case measure => omega
          case rel => exact ⟨c + 1, i + 1, x + 1, by go_num, by omega, by omega, by go_num, HNX.out, rfl⟩
        · have hb2 : bs.getD i false = false := by simpa using hb
          have hnext : Bsm.cnt (fun j => bs.getD j false) f (c + 1) = x := by
            rw [Bsm.cnt_no _ _ _ (by rw [hfc]; exact hb2), HX.out]
          have HNX := Lib.hid hnext
          rw [hb2] at h1
          clear hnext hb hb2
          go_wp2_with fail
          go_roundg k
          case measure => omega
          case rel => exact ⟨c + 1, i + 1, x, by go_num, by omega, by omega, rfl, HNX.out, rfl⟩
    · obtain rfl : c = N := by omega
      clear hr hv0
      by_cases hit : i < t
      · have hin : ¬ i < n := by omega
        go_wp2_with fail
        go_ret
        exact ⟨ret_int (by rw [HX.out]), rfl⟩
      · go_wp2_with fail
        go_ret
        exact ⟨ret_int (by rw [HX.out]), rfl⟩

theorem ones_same (x : Nat) (w : World) (h1 : x < 18446744073709551616) :
    Calls Try.prog 90 #[.int .u64 (x : Int)] w fun e w' => e = .returned (.int .i64 (Pop.pc 64 x : Nat)) ∧ w' = w :=
  (ones_any x w h1).mono fun _ _ ⟨he, hw⟩ => ⟨he, hw.symm⟩

theorem Bsm.cnt_zero (f : Nat → Bool) (a : Nat) : Bsm.cnt f a 0 = 0 := rfl

attribute [local irreducible] Pop.pc Bsm.cnt

theorem shl_fact (X i : Nat) (hi : i ≤ 10000) : IntKind.u64.wrap ((X : Int) * 2 ^ min (IntKind.u64.wrap (63 - bits BinOp.and IntKind.u64 (i : Int) 63)).toNat 64) = ((X * 2 ^ (63 - i % 64) % 18446744073709551616 : Nat) : Int) := by
  have h := u64_and_nat i 63 (by omega) (by omega)
  rw [and63] at h
  have h2 : bits BinOp.and IntKind.u64 (i : Int) 63 = ((i % 64 : Nat) : Int) := h
  have e1 : (IntKind.u64.wrap (63 - ((i % 64 : Nat) : Int))).toNat = 63 - i % 64 := by rw [IntKind.wrap_u64]; omega
  rw [h2, e1, Nat.min_eq_left (by omega), IntKind.wrap_u64]
  have e2 : (X : Int) * 2 ^ (63 - i % 64) = ((X * 2 ^ (63 - i % 64) : Nat) : Int) := by simp
  rw [e2]
  rfl

def RankLoop (ws : List Nat) (N : Nat) (w : World) (k : Nat) (r j : Value) (wr : World) : Prop :=
  ∃ c x : Nat, j = .int .i64 (c : Int) ∧ c + k = N ∧ r = .int .u64 (x : Int) ∧ Bsm.cnt (Bsm.bit ws) 0 (64 * c) = x ∧ ∃ m, wr = w.drewN m

set_option maxRecDepth 100000 in
set_option maxHeartbeats 400000 in
theorem rank_any (B : Nat) (p L i : Nat) (ws : List Nat) (cap : Nat) (w : World) (hb : Bs B w p L ws cap) (hwl : ws.length ≤ 10000) (hi : i ≤ 10000) :
    Calls Try.prog 63 #[.pointer (some ⟨p, 0, none⟩), .int .u64 (i : Int)] w
      fun e w' => e = .returned (.int .u64 (Bsm.cnt (Bsm.bit ws) 0 (i + 1) : Nat)) ∧ ∃ m, w' = w.drewN m := by
  have HLT := Lib.hid hb.word_lt
  obtain ⟨g, c0, c1, c2⟩ := hb.cells
  obtain ⟨n, hn⟩ : ∃ n, ws.length = n := ⟨_, rfl⟩
  rw [hn] at c1 c2 hwl
  obtain ⟨q, hq⟩ : ∃ q, i / 64 = q := ⟨_, rfl⟩
  have hq3 : (i : Int) / 64 = (q : Int) := by omega
  have hq4 : q ≤ 10000 := by omega
  have hi0 := hi
  have HLX0 : ∀ X i : Nat, X * 2 ^ (63 - i % 64) % 18446744073709551616 < 18446744073709551616 := fun X i => Nat.mod_lt _ (by decide)
  have HMOD := Lib.hid HLX0
  clear HLX0
  have HC2 := Lib.hid c2
  have HN := Lib.hid hn
  have HQ := Lib.hid hq
  clear hb c2 hn hq
  by_cases hqn : q < n
  · have hnq : decide (n < q) = false := by simpa using Nat.le_of_lt hqn
    go_enter Try.func63, Try.ntmps63
    go_wp2_with fail
    go_loopg [4, 7] q (fun k r j wr => RankLoop ws q w k r j wr)
    case atStart => exact ⟨0, 0, rfl, by omega, rfl, Bsm.cnt_zero _ _, 0, rfl⟩
    case round =>
      obtain ⟨c, x, rfl, hck, rfl, hx, m, rfl⟩ := hrel
      have hxl := Bsm.cnt_le (Bsm.bit ws) 0 (64 * c)
      rw [hx] at hxl
      have hx2 : x ≤ 1000000 := by omega
      have HX := Lib.hid hx
      clear hx hxl
      by_cases hi : c < q
      · have hcn : c < n := by omega
        have h1 := HC2.out c hcn
        have hpc := Bsm.pc_word ws c
        have hnext : Bsm.cnt (Bsm.bit ws) 0 (64 * (c + 1)) = x + Pop.pc 64 (ws.getD c 0) := by
          rw [Nat.mul_add, Bsm.cnt_add, HX.out, hpc, Nat.zero_add]
        have hlt := HLT.out c
        obtain ⟨X, hX⟩ : ∃ X, ws.getD c 0 = X := ⟨_, rfl⟩
        rw [hX] at h1 hnext hlt
        have h1b : (w.drewN m).cell? ⟨g, c, none⟩ = some (.int .u64 (X : Int)) := h1
        have d1 : (w.drewN m).cell? ⟨p, 1, none⟩ = some (.slice (some ⟨g, 0, none⟩) n cap) := c1
        have HLX := Lib.hid hlt
        clear hX hpc hlt
        cases gk with
        | zero => omega
        | succ k =>
          by_cases hX0 : X = 0
          · subst hX0
            rw [Pop.pc_zero] at hnext
            have HNX := Lib.hid hnext
            clear hnext
            go_wp2_with fail
            go_roundg k
            case measure => omega
            case rel => exact ⟨c + 1, x, by go_num, by omega, rfl, HNX.out, m, rfl⟩
          · have hXp : 0 < X := by omega
            have HPL := Lib.hid (Pop.pc_le 64 X)
            have HNX := Lib.hid hnext
            clear hnext
            have hpl := HPL.out
            obtain ⟨y, hy⟩ : ∃ y, Pop.pc 64 X = y := ⟨_, rfl⟩
            rw [hy] at hpl
            have HY := Lib.hid hy
            clear hy HPL
            go_wp2_with (go_at_call 90; refine (ones_same X _ HLX.out).mono ?_; rintro e w' ⟨rfl, rfl⟩; rw [HY.out])
            go_roundg k
            case measure => omega
            case rel => exact ⟨c + 1, x + y, by go_num, by omega, by go_num, by rw [HNX.out, HY.out], m, rfl⟩
      · obtain rfl : c = q := by omega
        have h1 := HC2.out c hqn
        have hlt := HLT.out c
        have hbitw : ∀ j, j < 64 → (ws.getD c 0).testBit j = Bsm.bit ws (64 * c + j) := fun j hj => by
          unfold Bsm.bit
          rw [show (64 * c + j) / 64 = c from by omega, show (64 * c + j) % 64 = j from by omega]
        obtain ⟨X, hX⟩ : ∃ X, ws.getD c 0 = X := ⟨_, rfl⟩
        rw [hX] at h1 hlt hbitw
        have h1b : (w.drewN m).cell? ⟨g, c, none⟩ = some (.int .u64 (X : Int)) := h1
        have d1 : (w.drewN m).cell? ⟨p, 1, none⟩ = some (.slice (some ⟨g, 0, none⟩) n cap) := c1
        have hfin : x + Pop.pc 64 (X * 2 ^ (63 - i % 64) % 18446744073709551616) = Bsm.cnt (Bsm.bit ws) 0 (i + 1) := by
          have e : i + 1 = 64 * c + (i % 64 + 1) := by have := HQ.out; omega
          rw [Bsm.pc_low X (i % 64) (by omega), e, Bsm.cnt_add (Bsm.bit ws) 0 (64 * c), HX.out, Nat.zero_add]
          congr 1
          exact Bsm.cnt_congr _ _ _ _ _ (fun j hj => by rw [Nat.zero_add]; exact hbitw j (by omega))
        have HF := Lib.hid hfin
        have HSH := Lib.hid (shl_fact X i hi0)
        have HLX := Lib.hid hlt
        clear hX hlt hbitw hfin
        go_wp2_with fail
        rw [HSH.out]
        refine (ones_same _ _ (HMOD.out X i)).mono ?_
        rintro e w' ⟨rfl, rfl⟩
        have hpl := Pop.pc_le 64 (X * 2 ^ (63 - i % 64) % 18446744073709551616)
        have hfin := HF.out
        obtain ⟨y, hy⟩ : ∃ y, Pop.pc 64 (X * 2 ^ (63 - i % 64) % 18446744073709551616) = y := ⟨_, rfl⟩
        rw [hy] at hpl hfin ⊢
        have HF2 := Lib.hid hfin
        clear hy hfin HF HSH
        go_wp2_with fail
        go_ret
        exact ⟨ret_int (by rw [← HF2.out]; rfl), m, rfl⟩
  · by_cases hnq2 : n < q
    · have hnq : decide (n < q) = true := by simpa using hnq2
      go_enter Try.func63, Try.ntmps63
      go_wp2_with fail
      go_loopg [4, 7] n (fun k r j wr => RankLoop ws n w k r j wr)
      case atStart => exact ⟨0, 0, rfl, by omega, rfl, Bsm.cnt_zero _ _, 0, rfl⟩
      case round =>
        obtain ⟨c, x, rfl, hck, rfl, hx, m, rfl⟩ := hrel
        have hxl := Bsm.cnt_le (Bsm.bit ws) 0 (64 * c)
        rw [hx] at hxl
        have hx2 : x ≤ 1000000 := by omega
        have HX := Lib.hid hx
        clear hx hxl
        by_cases hi : c < n
        · have hcn : c < n := by omega
          have h1 := HC2.out c hcn
          have hpc := Bsm.pc_word ws c
          have hnext : Bsm.cnt (Bsm.bit ws) 0 (64 * (c + 1)) = x + Pop.pc 64 (ws.getD c 0) := by
            rw [Nat.mul_add, Bsm.cnt_add, HX.out, hpc, Nat.zero_add]
          have hlt := HLT.out c
          obtain ⟨X, hX⟩ : ∃ X, ws.getD c 0 = X := ⟨_, rfl⟩
          rw [hX] at h1 hnext hlt
          have h1b : (w.drewN m).cell? ⟨g, c, none⟩ = some (.int .u64 (X : Int)) := h1
          have d1 : (w.drewN m).cell? ⟨p, 1, none⟩ = some (.slice (some ⟨g, 0, none⟩) n cap) := c1
          have HLX := Lib.hid hlt
          clear hX hpc hlt
          cases gk with
          | zero => omega
          | succ k =>
            by_cases hX0 : X = 0
            · subst hX0
              rw [Pop.pc_zero] at hnext
              have HNX := Lib.hid hnext
              clear hnext
              go_wp2_with fail
              go_roundg k
              case measure => omega
              case rel => exact ⟨c + 1, x, by go_num, by omega, rfl, HNX.out, m, rfl⟩
            · have hXp : 0 < X := by omega
              have HPL := Lib.hid (Pop.pc_le 64 X)
              have HNX := Lib.hid hnext
              clear hnext
              have hpl := HPL.out
              obtain ⟨y, hy⟩ : ∃ y, Pop.pc 64 X = y := ⟨_, rfl⟩
              rw [hy] at hpl
              have HY := Lib.hid hy
              clear hy HPL
              go_wp2_with (go_at_call 90; refine (ones_same X _ HLX.out).mono ?_; rintro e w' ⟨rfl, rfl⟩; rw [HY.out])
              go_roundg k
              case measure => omega
              case rel => exact ⟨c + 1, x + y, by go_num, by omega, by go_num, by rw [HNX.out, HY.out], m, rfl⟩
        · obtain rfl : c = n := by omega
          have hfin : Bsm.cnt (Bsm.bit ws) 0 (i + 1) = x := by
            rw [← HX.out]
            refine Bsm.cnt_more _ _ _ _ (by have := HQ.out; omega) (fun j h1 h2 => ?_)
            unfold Bsm.bit
            rw [List.getD_eq_getElem?_getD, List.getElem?_eq_none (by have := HN.out; omega)]
            simp
          have HF := Lib.hid hfin
          clear hfin
          go_wp2_with fail
          go_ret
          exact ⟨ret_int (by rw [HF.out]), m, rfl⟩
    · have hnq : decide (n < q) = false := by simpa using Nat.le_of_not_lt hnq2
      go_enter Try.func63, Try.ntmps63
      go_wp2_with fail
      go_loopg [4, 7] q (fun k r j wr => RankLoop ws q w k r j wr)
      case atStart => exact ⟨0, 0, rfl, by omega, rfl, Bsm.cnt_zero _ _, 0, rfl⟩
      case round =>
        obtain ⟨c, x, rfl, hck, rfl, hx, m, rfl⟩ := hrel
        have hxl := Bsm.cnt_le (Bsm.bit ws) 0 (64 * c)
        rw [hx] at hxl
        have hx2 : x ≤ 1000000 := by omega
        have HX := Lib.hid hx
        clear hx hxl
        by_cases hi : c < q
        · have hcn : c < n := by omega
          have h1 := HC2.out c hcn
          have hpc := Bsm.pc_word ws c
          have hnext : Bsm.cnt (Bsm.bit ws) 0 (64 * (c + 1)) = x + Pop.pc 64 (ws.getD c 0) := by
            rw [Nat.mul_add, Bsm.cnt_add, HX.out, hpc, Nat.zero_add]
          have hlt := HLT.out c
          obtain ⟨X, hX⟩ : ∃ X, ws.getD c 0 = X := ⟨_, rfl⟩
          rw [hX] at h1 hnext hlt
          have h1b : (w.drewN m).cell? ⟨g, c, none⟩ = some (.int .u64 (X : Int)) := h1
          have d1 : (w.drewN m).cell? ⟨p, 1, none⟩ = some (.slice (some ⟨g, 0, none⟩) n cap) := c1
          have HLX := Lib.hid hlt
          clear hX hpc hlt
          cases gk with
          | zero => omega
          | succ k =>
            by_cases hX0 : X = 0
            · subst hX0
              rw [Pop.pc_zero] at hnext
              have HNX := Lib.hid hnext
              clear hnext
              go_wp2_with fail
              go_roundg k
              case measure => omega
              case rel => exact ⟨c + 1, x, by go_num, by omega, rfl, HNX.out, m, rfl⟩
            · have hXp : 0 < X := by omega
              have HPL := Lib.hid (Pop.pc_le 64 X)
              have HNX := Lib.hid hnext
              clear hnext
              have hpl := HPL.out
              obtain ⟨y, hy⟩ : ∃ y, Pop.pc 64 X = y := ⟨_, rfl⟩
              rw [hy] at hpl
              have HY := Lib.hid hy
              clear hy HPL
              go_wp2_with (go_at_call 90; refine (ones_same X _ HLX.out).mono ?_; rintro e w' ⟨rfl, rfl⟩; rw [HY.out])
              go_roundg k
              case measure => omega
              case rel => exact ⟨c + 1, x + y, by go_num, by omega, by go_num, by rw [HNX.out, HY.out], m, rfl⟩
        · obtain rfl : c = q := by omega
          have hfin : Bsm.cnt (Bsm.bit ws) 0 (i + 1) = x := by
            rw [← HX.out]
            refine Bsm.cnt_more _ _ _ _ (by have := HQ.out; omega) (fun j h1 h2 => ?_)
            unfold Bsm.bit
            rw [List.getD_eq_getElem?_getD, List.getElem?_eq_none (by have := HN.out; omega)]
            simp
          have HF := Lib.hid hfin
          clear hfin
          go_wp2_with fail
          go_ret
          exact ⟨ret_int (by rw [HF.out]), m, rfl⟩
end Go.Proofs.Ytbgmkojiklphmaa
