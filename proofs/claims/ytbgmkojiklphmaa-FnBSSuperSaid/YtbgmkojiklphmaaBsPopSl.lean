/- Walks of popcntSlice, popcntAndSlice, popcntXorSlice, wordCount, Count. -/
import Derived.Test.YtbgmkojiklphmaaBsCount
import Derived.Test.YtbgmkojiklphmaaBsMeet
namespace Go.Proofs.Ytbgmkojiklphmaa
set_option linter.unusedVariables false
open Go.RowKit
attribute [local irreducible] Pop.pc Bsm.cnt

theorem ones_eq (x y : Nat) (h : Pop.pc 64 x = y) (w : World) (h1 : x < 18446744073709551616) :
    Calls Try.prog 90 #[.int .u64 (x : Int)] w fun e w' => e = .returned (.int .i64 (y : Nat)) ∧ w' = w := by
  subst h; exact ones_same x w h1

/-- a step of a count of words -/
theorem Bsm.cnt_word (zs : List Nat) (c x : Nat) (h : Bsm.cnt (Bsm.bit zs) 0 (64 * c) = x) : Bsm.cnt (Bsm.bit zs) 0 (64 * (c + 1)) = x + Pop.pc 64 (zs.getD c 0) := by
  rw [Nat.mul_add, Bsm.cnt_add, h, Bsm.pc_word zs c, Nat.zero_add]

theorem Bsm.bit_zip (f : Nat → Nat → Nat) (g : Bool → Bool → Bool) (hf : ∀ x y j, (f x y).testBit j = g (x.testBit j) (y.testBit j)) (xs ys : List Nat) (hl : xs.length ≤ ys.length) (j : Nat) (hj : j < 64 * xs.length) :
    Bsm.bit (List.zipWith f xs ys) j = g (Bsm.bit xs j) (Bsm.bit ys j) := by
  unfold Bsm.bit
  rw [← hf]
  congr 1
  have h1 : j / 64 < xs.length := by omega
  have h2 : j / 64 < ys.length := by omega
  simp [List.getD_eq_getElem?_getD, List.getElem?_zipWith, List.getElem?_eq_getElem h1, List.getElem?_eq_getElem h2]

theorem Bsm.zip_getD (f : Nat → Nat → Nat) (xs ys : List Nat) (hl : xs.length ≤ ys.length) (c : Nat) (hc : c < xs.length) :
    (List.zipWith f xs ys).getD c 0 = f (xs.getD c 0) (ys.getD c 0) := by
  have h2 : c < ys.length := by omega
  simp [List.getD_eq_getElem?_getD, List.getElem?_zipWith, List.getElem?_eq_getElem hc, List.getElem?_eq_getElem h2]

theorem Bs.sl {B p L : Nat} {ws : List Nat} {cap : Nat} {w : World} (h : Bs B w p L ws cap) : ∃ g, w.cell? ⟨p, 0, none⟩ = some (.int .u64 (L : Int)) ∧ w.cell? ⟨p, 1, none⟩ = some (.slice (some ⟨g, 0, none⟩) ws.length cap) ∧
    Sl w (.slice (some ⟨g, 0, none⟩) ws.length cap) (u64s ws) ∧ B ≤ g ∧ B ≤ p ∧ g < w.heap.size ∧ p < w.heap.size := by
  obtain ⟨g, h1, h2, h3, h4, h5⟩ := h
  exact ⟨g, h3.cell 0 rfl, h3.cell 1 rfl, Sl.of_owns h4, (h4.lt g rfl).1, h1, (h4.lt g rfl).2, h3.lt⟩

def PopLoop (zs : List Nat) (N : Nat) (w : World) (k : Nat) (r j : Value) (wr : World) : Prop :=
  ∃ c x : Nat, j = .int .i64 (c : Int) ∧ c + k = N ∧ r = .int .u64 (x : Int) ∧ Bsm.cnt (Bsm.bit zs) 0 (64 * c) = x ∧ ∃ m, wr = w.drewN m

theorem Sl.u64_at {w : World} {a : Option Addr} {n cap : Nat} {xs : List Nat} (h : Sl w (.slice a n cap) (u64s xs)) (hn : 0 < n) : ∃ b off, a = some ⟨b, off, none⟩ ∧ ∀ i, i < n → w.cell? ⟨b, off + i, none⟩ = some (.int .u64 (xs.getD i 0 : Nat)) := by
  obtain ⟨a', n', cap', e, hl, hc, hm, hr⟩ := h
  simp only [Value.slice.injEq] at e
  obtain ⟨rfl, rfl, rfl⟩ := e
  obtain ⟨b, off, rfl, h⟩ := hr hn
  rw [u64s_len] at hl
  exact ⟨b, off, rfl, fun i hi => h i _ (u64s_at xs i (by omega))⟩

set_option maxRecDepth 100000 in
set_option maxHeartbeats 1000000 in
theorem popand_any (v u : Value) (xs ys : List Nat) (w : World) (hv : Sl w v (u64s xs)) (hu : Sl w u (u64s ys)) (h0 : 0 < xs.length) (hl : xs.length ≤ ys.length) (hn : xs.length ≤ 10000)
    (hx : ∀ q, xs.getD q 0 < 18446744073709551616) (hy : ∀ q, ys.getD q 0 < 18446744073709551616) :
    Calls Try.prog 98 #[v, u] w
      fun e w' => e = .returned (.int .u64 (Bsm.cnt (Bsm.bit (List.zipWith (fun x y => x &&& y) xs ys)) 0 (64 * xs.length) : Nat)) ∧ ∃ m, w' = w.drewN m := by
  obtain ⟨a, n, cap, rfl, hvl, _⟩ := id hv
  obtain ⟨a2, n2, cap2, rfl, hul, hu2, hu3, _⟩ := id hu
  rw [u64s_len] at hvl hul
  obtain ⟨b, off, rfl, hcell⟩ := hv.u64_at (by omega)
  obtain ⟨b2, off2, rfl, hcell2⟩ := hu.u64_at (by omega)
  unfold maxLen at hu3
  have hz := fun c (hc : c < n) => Bsm.zip_getD (fun x y => x &&& y) xs ys hl c (by omega)
  rw [hvl]
  obtain ⟨zs, hzs⟩ : ∃ zs, List.zipWith (fun x y => x &&& y) xs ys = zs := ⟨_, rfl⟩
  rw [hzs] at hz ⊢
  have hnn : n ≤ n2 := by omega
  have hn1 : n ≤ 10000 := by omega
  have h00 : 0 < n := by omega
  obtain ⟨k0, hk0⟩ : ∃ k0, n = k0 + 1 := ⟨n - 1, by omega⟩
  have hw1 : IntKind.i64.wrap ((n : Int) - 1) = (k0 : Int) := by rw [IntKind.wrap_i64]; omega
  have hk1 : k0 < n2 := by omega
  have hk2 : (k0 : Int) < (n2 : Int) := by omega
  have hc0 := hcell2 k0 hk1
  have HC := Lib.hid hcell
  have HC2 := Lib.hid hcell2
  have HX := Lib.hid hx
  have HY := Lib.hid hy
  have HZ := Lib.hid hz
  clear hv hu hvl hul hcell hcell2 hx hy hz hl hn hzs hk0 h0
  go_enter Try.func98, Try.ntmps98
  go_wp2_with fail
  go_loopg [4, 14] n (fun k r j wr => PopLoop zs n w k r j wr)
  case atStart => exact ⟨0, 0, rfl, by omega, rfl, Bsm.cnt_zero _ _, 0, rfl⟩
  case round =>
    obtain ⟨c, x, rfl, hck, rfl, hx, m, rfl⟩ := hrel
    have hxl := Bsm.cnt_le (Bsm.bit zs) 0 (64 * c)
    rw [hx] at hxl
    have hx2 : x ≤ 1000000 := by omega
    have HCX := Lib.hid hx
    clear hx hxl
    by_cases hi : c < n
    · have h1 := HC.out c hi
      have h2 := HC2.out c (by omega)
      have hX := HX.out c
      have hY := HY.out c
      have hZ := HZ.out c hi
      have hnext := Bsm.cnt_word zs c x HCX.out
      have hi2 : c < n2 := by omega
      have hi3 : (c : Int) < (n2 : Int) := by omega
      have hi4 : (c : Int) < (n : Int) := by omega
      have hi5 : (0 : Int) ≤ (c : Int) := by omega
      obtain ⟨X, hXX⟩ : ∃ X, xs.getD c 0 = X := ⟨_, rfl⟩
      obtain ⟨Y, hYY⟩ : ∃ Y, ys.getD c 0 = Y := ⟨_, rfl⟩
      obtain ⟨Z, hZZ⟩ : ∃ Z, zs.getD c 0 = Z := ⟨_, rfl⟩
      rw [hXX] at h1 hX hZ
      rw [hYY] at h2 hY hZ
      rw [hZZ] at hZ hnext
      have hop : bits BinOp.and IntKind.u64 (X : Int) (Y : Int) = (Z : Int) := by rw [hZ]; exact u64_and_nat X Y hX hY
      have hZl : Z < 18446744073709551616 := by rw [hZ]; exact and_lt X Y hX
      have hpl := Pop.pc_le 64 Z
      obtain ⟨y, hy⟩ : ∃ y, Pop.pc 64 Z = y := ⟨_, rfl⟩
      rw [hy] at hpl hnext
      have hwy : IntKind.u64.wrap (y : Int) = (y : Int) := by rw [IntKind.wrap_u64]; omega
      have hws : IntKind.u64.wrap ((x : Int) + (y : Int)) = (x : Int) + (y : Int) := by rw [IntKind.wrap_u64]; omega
      have HNX := Lib.hid hnext
      have HPY := Lib.hid hy
      have HZL := Lib.hid hZl
      clear hXX hYY hZZ hZ hnext hX hY hy hZl
      cases gk with
      | zero => omega
      | succ k =>
        go_wp2_with fail
        go_quiet ((go_at_call 90; first | exact quiet_add_same (ones_eq Z y HPY.out _ HZL.out) | exact Calls.quiet_of_same (ones_eq Z y HPY.out _ HZL.out)))
        clear hwy hws
        go_wp2_with fail
        go_roundg k
        case measure => omega
        case rel => exact ⟨c + 1, x + y, by go_num, by omega, by go_num, HNX.out, _, rfl⟩
    · obtain rfl : c = n := by omega
      go_wp2_with fail
      go_ret
      exact ⟨ret_int (by rw [HCX.out]), m, rfl⟩

set_option maxRecDepth 100000 in
set_option maxHeartbeats 1000000 in
theorem popxor_any (v u : Value) (xs ys : List Nat) (w : World) (hv : Sl w v (u64s xs)) (hu : Sl w u (u64s ys)) (h0 : 0 < xs.length) (hl : xs.length ≤ ys.length) (hn : xs.length ≤ 10000)
    (hx : ∀ q, xs.getD q 0 < 18446744073709551616) (hy : ∀ q, ys.getD q 0 < 18446744073709551616) :
    Calls Try.prog 99 #[v, u] w
      fun e w' => e = .returned (.int .u64 (Bsm.cnt (Bsm.bit (List.zipWith (fun x y => x ^^^ y) xs ys)) 0 (64 * xs.length) : Nat)) ∧ ∃ m, w' = w.drewN m := by
  obtain ⟨a, n, cap, rfl, hvl, _⟩ := id hv
  obtain ⟨a2, n2, cap2, rfl, hul, hu2, hu3, _⟩ := id hu
  rw [u64s_len] at hvl hul
  obtain ⟨b, off, rfl, hcell⟩ := hv.u64_at (by omega)
  obtain ⟨b2, off2, rfl, hcell2⟩ := hu.u64_at (by omega)
  unfold maxLen at hu3
  have hz := fun c (hc : c < n) => Bsm.zip_getD (fun x y => x ^^^ y) xs ys hl c (by omega)
  rw [hvl]
  obtain ⟨zs, hzs⟩ : ∃ zs, List.zipWith (fun x y => x ^^^ y) xs ys = zs := ⟨_, rfl⟩
  rw [hzs] at hz ⊢
  have hnn : n ≤ n2 := by omega
  have hn1 : n ≤ 10000 := by omega
  have h00 : 0 < n := by omega
  obtain ⟨k0, hk0⟩ : ∃ k0, n = k0 + 1 := ⟨n - 1, by omega⟩
  have hw1 : IntKind.i64.wrap ((n : Int) - 1) = (k0 : Int) := by rw [IntKind.wrap_i64]; omega
  have hk1 : k0 < n2 := by omega
  have hk2 : (k0 : Int) < (n2 : Int) := by omega
  have hc0 := hcell2 k0 hk1
  have HC := Lib.hid hcell
  have HC2 := Lib.hid hcell2
  have HX := Lib.hid hx
  have HY := Lib.hid hy
  have HZ := Lib.hid hz
  clear hv hu hvl hul hcell hcell2 hx hy hz hl hn hzs hk0 h0
  go_enter Try.func99, Try.ntmps99
  go_wp2_with fail
  go_loopg [4, 14] n (fun k r j wr => PopLoop zs n w k r j wr)
  case atStart => exact ⟨0, 0, rfl, by omega, rfl, Bsm.cnt_zero _ _, 0, rfl⟩
  case round =>
    obtain ⟨c, x, rfl, hck, rfl, hx, m, rfl⟩ := hrel
    have hxl := Bsm.cnt_le (Bsm.bit zs) 0 (64 * c)
    rw [hx] at hxl
    have hx2 : x ≤ 1000000 := by omega
    have HCX := Lib.hid hx
    clear hx hxl
    by_cases hi : c < n
    · have h1 := HC.out c hi
      have h2 := HC2.out c (by omega)
      have hX := HX.out c
      have hY := HY.out c
      have hZ := HZ.out c hi
      have hnext := Bsm.cnt_word zs c x HCX.out
      have hi2 : c < n2 := by omega
      have hi3 : (c : Int) < (n2 : Int) := by omega
      have hi4 : (c : Int) < (n : Int) := by omega
      have hi5 : (0 : Int) ≤ (c : Int) := by omega
      obtain ⟨X, hXX⟩ : ∃ X, xs.getD c 0 = X := ⟨_, rfl⟩
      obtain ⟨Y, hYY⟩ : ∃ Y, ys.getD c 0 = Y := ⟨_, rfl⟩
      obtain ⟨Z, hZZ⟩ : ∃ Z, zs.getD c 0 = Z := ⟨_, rfl⟩
      rw [hXX] at h1 hX hZ
      rw [hYY] at h2 hY hZ
      rw [hZZ] at hZ hnext
      have hop : bits BinOp.xor IntKind.u64 (X : Int) (Y : Int) = (Z : Int) := by rw [hZ]; exact u64_xor_nat X Y hX hY
      have hZl : Z < 18446744073709551616 := by rw [hZ]; exact Nat.xor_lt_two_pow (n := 64) hX hY
      have hpl := Pop.pc_le 64 Z
      obtain ⟨y, hy⟩ : ∃ y, Pop.pc 64 Z = y := ⟨_, rfl⟩
      rw [hy] at hpl hnext
      have hwy : IntKind.u64.wrap (y : Int) = (y : Int) := by rw [IntKind.wrap_u64]; omega
      have hws : IntKind.u64.wrap ((x : Int) + (y : Int)) = (x : Int) + (y : Int) := by rw [IntKind.wrap_u64]; omega
      have HNX := Lib.hid hnext
      have HPY := Lib.hid hy
      have HZL := Lib.hid hZl
      clear hXX hYY hZZ hZ hnext hX hY hy hZl
      cases gk with
      | zero => omega
      | succ k =>
        go_wp2_with fail
        go_quiet ((go_at_call 90; first | exact quiet_add_same (ones_eq Z y HPY.out _ HZL.out) | exact Calls.quiet_of_same (ones_eq Z y HPY.out _ HZL.out)))
        clear hwy hws
        go_wp2_with fail
        go_roundg k
        case measure => omega
        case rel => exact ⟨c + 1, x + y, by go_num, by omega, by go_num, HNX.out, _, rfl⟩
    · obtain rfl : c = n := by omega
      go_wp2_with fail
      go_ret
      exact ⟨ret_int (by rw [HCX.out]), m, rfl⟩

def Pop4Loop (zs : List Nat) (n : Nat) (w : World) (k : Nat) (r0 r1 r2 r3 j : Value) (wr : World) : Prop :=
  ∃ c x0 x1 x2 x3 : Nat, j = .int .i64 (c : Int) ∧ c ≤ n ∧ c + 4 * k ≤ n ∧ n < c + 4 * k + 4 ∧ r0 = .int .u64 (x0 : Int) ∧ r1 = .int .u64 (x1 : Int) ∧ r2 = .int .u64 (x2 : Int) ∧ r3 = .int .u64 (x3 : Int) ∧
    Bsm.cnt (Bsm.bit zs) 0 (64 * c) = x0 + x1 + x2 + x3 ∧ ∃ m, wr = w.drewN m

set_option maxRecDepth 100000 in
set_option maxHeartbeats 4000000 in
theorem popsl_any (v : Value) (xs : List Nat) (w : World) (hv : Sl w v (u64s xs)) (hn : xs.length ≤ 10000) (hx : ∀ q, xs.getD q 0 < 18446744073709551616) :
    Calls Try.prog 93 #[v] w
      fun e w' => e = .returned (.int .u64 (Bsm.cnt (Bsm.bit xs) 0 (64 * xs.length) : Nat)) ∧ ∃ m, w' = w.drewN m := by
  obtain ⟨a, n, cap, rfl, hvl, _⟩ := id hv
  rw [u64s_len] at hvl
  have hcell : 0 < n → _ := fun h => hv.u64_at h
  rw [hvl]
  have hn1 : n ≤ 10000 := by omega
  have HC := Lib.hid hcell
  have HX := Lib.hid hx
  clear hv hvl hcell hx hn
  go_enter Try.func93, Try.ntmps93
  go_wp2_with fail
  go_loopg [3, 4, 5, 6, 8] (n / 4) (fun k r0 r1 r2 r3 j wr => Pop4Loop xs n w k r0 r1 r2 r3 j wr)
  case atStart => exact ⟨0, 0, 0, 0, 0, rfl, by omega, by omega, by omega, rfl, rfl, rfl, rfl, Bsm.cnt_zero _ _, 0, rfl⟩
  case round =>
    obtain ⟨c, x0, x1, x2, x3, rfl, hcn, hk1, hk2, rfl, rfl, rfl, rfl, hx, m, rfl⟩ := hrel
    have hxl := Bsm.cnt_le (Bsm.bit xs) 0 (64 * c)
    rw [hx] at hxl
    have hx2 : x0 + x1 + x2 + x3 ≤ 1000000 := by omega
    have hy0 : x0 ≤ 1000000 := by omega
    have hy1 : x1 ≤ 1000000 := by omega
    have hy2 : x2 ≤ 1000000 := by omega
    have hy3 : x3 ≤ 1000000 := by omega
    have HCX := Lib.hid hx
    clear hx hxl
    by_cases hi : c + 4 ≤ n
    · obtain ⟨b, off, rfl, HCC⟩ := HC.out (by omega)
      have h0 := HCC c (by omega)
      have h1 := HCC (c + 1) (by omega)
      have h2 := HCC (c + 2) (by omega)
      have h3 := HCC (c + 3) (by omega)
      have X0 := HX.out c
      have X1 := HX.out (c + 1)
      have X2 := HX.out (c + 2)
      have X3 := HX.out (c + 3)
      have n0 := Bsm.cnt_word xs c _ HCX.out
      have n1 := Bsm.cnt_word xs (c + 1) _ n0
      have n2 := Bsm.cnt_word xs (c + 2) _ n1
      have n3 := Bsm.cnt_word xs (c + 3) _ n2
      obtain ⟨Y0, e0⟩ : ∃ Y, xs.getD c 0 = Y := ⟨_, rfl⟩
      obtain ⟨Y1, e1⟩ : ∃ Y, xs.getD (c + 1) 0 = Y := ⟨_, rfl⟩
      obtain ⟨Y2, e2⟩ : ∃ Y, xs.getD (c + 2) 0 = Y := ⟨_, rfl⟩
      obtain ⟨Y3, e3⟩ : ∃ Y, xs.getD (c + 3) 0 = Y := ⟨_, rfl⟩
      rw [e0, e1, e2, e3] at n3
      rw [e0] at h0 X0
      rw [e1] at h1 X1
      rw [e2] at h2 X2
      rw [e3] at h3 X3
      have l0 := Pop.pc_le 64 Y0
      have l1 := Pop.pc_le 64 Y1
      have l2 := Pop.pc_le 64 Y2
      have l3 := Pop.pc_le 64 Y3
      obtain ⟨z0, d0⟩ : ∃ z, Pop.pc 64 Y0 = z := ⟨_, rfl⟩
      obtain ⟨z1, d1⟩ : ∃ z, Pop.pc 64 Y1 = z := ⟨_, rfl⟩
      obtain ⟨z2, d2⟩ : ∃ z, Pop.pc 64 Y2 = z := ⟨_, rfl⟩
      obtain ⟨z3, d3⟩ : ∃ z, Pop.pc 64 Y3 = z := ⟨_, rfl⟩
      rw [d0, d1, d2, d3] at n3
      rw [d0] at l0
      rw [d1] at l1
      rw [d2] at l2
      rw [d3] at l3
      have D0 := Lib.hid d0
      have D1 := Lib.hid d1
      have D2 := Lib.hid d2
      have D3 := Lib.hid d3
      have L0 := Lib.hid X0
      have L1 := Lib.hid X1
      have L2 := Lib.hid X2
      have L3 := Lib.hid X3
      have N3 : Hid (Bsm.cnt (Bsm.bit xs) 0 (64 * (c + 4)) = (x0 + z0) + (x1 + z1) + (x2 + z2) + (x3 + z3)) := by
        have : c + 3 + 1 = c + 4 := by omega
        rw [this] at n3
        exact n3.trans (by omega)
      have HCC2 := Lib.hid HCC
      clear n0 n1 n2 n3 e0 e1 e2 e3 d0 d1 d2 d3 X0 X1 X2 X3 HCC
      cases gk with
      | zero => omega
      | succ k =>
        go_wp2_with fail
        refine (ones_eq Y0 z0 D0.out _ L0.out).mono ?_
        rintro e w' ⟨rfl, rfl⟩
        go_wp2_with fail
        refine (ones_eq Y1 z1 D1.out _ L1.out).mono ?_
        rintro e w' ⟨rfl, rfl⟩
        go_wp2_with fail
        refine (ones_eq Y2 z2 D2.out _ L2.out).mono ?_
        rintro e w' ⟨rfl, rfl⟩
        go_wp2_with fail
        refine (ones_eq Y3 z3 D3.out _ L3.out).mono ?_
        rintro e w' ⟨rfl, rfl⟩
        go_wp2_with fail
        go_roundg k
        case measure => omega
        case rel => exact ⟨c + 4, x0 + z0, x1 + z1, x2 + z2, x3 + z3, by go_num, by omega, by omega, by omega, by go_num, by go_num, by go_num, by go_num, N3.out, m, rfl⟩
    · go_wp2_with fail
      go_loopg [2, 8] (n - c) (fun k r j wr => PopLoop xs n w k r j wr)
      case atStart => exact ⟨c, x0 + x1 + x2 + x3, rfl, by omega, by go_num, HCX.out, m, rfl⟩
      case round =>
        obtain ⟨c', x, rfl, hck, rfl, hx, m', rfl⟩ := hrel
        have hxl := Bsm.cnt_le (Bsm.bit xs) 0 (64 * c')
        rw [hx] at hxl
        have hx2' : x ≤ 1000000 := by omega
        have HCX' := Lib.hid hx
        clear hx hxl
        by_cases hi' : c' < n
        · obtain ⟨b, off, rfl, HCC⟩ := HC.out (by omega)
          have h0 := HCC c' (by omega)
          have X0 := HX.out c'
          have n0 := Bsm.cnt_word xs c' _ HCX'.out
          obtain ⟨Y0, e0⟩ : ∃ Y, xs.getD c' 0 = Y := ⟨_, rfl⟩
          rw [e0] at n0 h0 X0
          have l0 := Pop.pc_le 64 Y0
          obtain ⟨z0, d0⟩ : ∃ z, Pop.pc 64 Y0 = z := ⟨_, rfl⟩
          rw [d0] at n0 l0
          have D0 := Lib.hid d0
          have L0 := Lib.hid X0
          have N0 := Lib.hid n0
          clear n0 e0 d0 X0 HCC
          cases gk with
          | zero => omega
          | succ k =>
            go_wp2_with fail
            refine (ones_eq Y0 z0 D0.out _ L0.out).mono ?_
            rintro e w' ⟨rfl, rfl⟩
            go_wp2_with fail
            go_roundg k
            case measure => omega
            case rel => exact ⟨c' + 1, x + z0, by go_num, by omega, by go_num, N0.out, m', rfl⟩
        · obtain rfl : c' = n := by omega
          go_wp2_with fail
          go_ret
          exact ⟨ret_int (by rw [HCX'.out]), m', rfl⟩

set_option maxHeartbeats 400000 in
theorem wordcount_any (B p L : Nat) (ws : List Nat) (cap : Nat) (w : World) (hb : Bs B w p L ws cap) (hL : L ≤ 100000) (n : Nat) (hn : (L + 63) / 64 = n) :
    Calls Try.prog 92 #[.pointer (some ⟨p, 0, none⟩)] w fun e w' => e = .returned (.int .i64 (n : Int)) ∧ w = w' := by
  obtain ⟨g, c0, c1, c2⟩ := hb.cells
  clear hb c2 c1
  have hw1 : IntKind.i64.wrap (L : Int) = (L : Int) := IntWalk.i64_in _ (by omega)
  have hn2 : ((L : Int) + 63) / 64 = (n : Int) := by omega
  have HN := Lib.hid hn
  clear hn
  go_enter Try.func92, Try.ntmps92
  go_wp2_with (go_at_call 103; go_in)
  go_ret
  exact ⟨ret_int (by first | rfl | omega), rfl⟩
end Go.Proofs.Ytbgmkojiklphmaa
