/- Walks of sum128 at one length of the tail each (printed by gen_sum128.py). -/
import Derived.Test.YtbcbkieebelleaaBlHash
import Derived.Outline
import Derived.Deep.CutBlock
namespace Go.Proofs.Ytbcbkieebelleaa
set_option linter.unusedVariables false
open Go.RowKit

set_option maxRecDepth 100000 in
set_option maxHeartbeats 4000000 in
theorem s0n (y1 y2 len : Int) : ∃ r1 r2 : Int, ∀ (d cap : Nat) (a : Option Addr) (w : World), Dg w d y1 y2 →
    Calls Try.prog 87 #[.pointer (some ⟨d, 0, none⟩), .bool false, .int .u64 len, .slice a 0 cap] w fun e w' => e = .returned (.tuple #[.int .u64 r1, .int .u64 r2]) ∧ ∃ k, w' = w.drewN k := by
  obtain ⟨R31, hR31⟩ := rot31_ex
  obtain ⟨R33, hR33⟩ := rot33_ex
  obtain ⟨FM, hFM⟩ := fmix_ex
  apply Exists.intro
  apply Exists.intro
  intro d cap a w hd
  have c0 : w.cell? ⟨d, 0, none⟩ = some (.int .u64 y1) := hd.cell 0 rfl
  have c1 : w.cell? ⟨d, 1, none⟩ = some (.int .u64 y2) := hd.cell 1 rfl
  have b1 : bits BinOp.and .i64 0 15 = 0 := by decide
  clear hd
  go_enter Try.func87, Try.ntmps87
  go_wp2_with fail
  go_quiet (fail)
  clear c0 c1
  go_upto_if 134 with fail
  go_step
  go_step
  with_reducible refine norm_then ?_
  go_step
  with_reducible refine wp_exit ?_
  repeat (first | (with_reducible refine leave_then ?_) | (with_reducible refine leave_eq ?_) | (with_reducible refine leave_ne (by decide) ?_) | (with_reducible refine norm_in ?_) | (with_reducible refine norm_then ?_))
  go_wp2_with fail
  refine (hFM _ _).mono ?_
  rintro e w' ⟨rfl, rfl⟩
  go_wp2_with fail
  refine (hFM _ _).mono ?_
  rintro e w' ⟨rfl, rfl⟩
  go_wp2_with fail
  refine bodyPost_ret (results_tmp2 rfl _ _ _) rfl ?_
  exact ⟨rfl, nq, rfl⟩

set_option maxRecDepth 100000 in
set_option maxHeartbeats 4000000 in
theorem s1n (y1 y2 len : Int) (x0 : Int) : ∃ r1 r2 : Int, ∀ (d cap : Nat) (b o : Nat) (w : World), Dg w d y1 y2 → w.cell? ⟨b, o, none⟩ = some (.int .u8 x0) →
    Calls Try.prog 87 #[.pointer (some ⟨d, 0, none⟩), .bool false, .int .u64 len, .slice (some ⟨b, o, none⟩) 1 cap] w fun e w' => e = .returned (.tuple #[.int .u64 r1, .int .u64 r2]) ∧ ∃ k, w' = w.drewN k := by
  obtain ⟨R31, hR31⟩ := rot31_ex
  obtain ⟨R33, hR33⟩ := rot33_ex
  obtain ⟨FM, hFM⟩ := fmix_ex
  apply Exists.intro
  apply Exists.intro
  intro d cap b o w hd h0
  have c0 : w.cell? ⟨d, 0, none⟩ = some (.int .u64 y1) := hd.cell 0 rfl
  have c1 : w.cell? ⟨d, 1, none⟩ = some (.int .u64 y2) := hd.cell 1 rfl
  have b1 : bits BinOp.and .i64 1 15 = 1 := by decide
  clear hd
  go_enter Try.func87, Try.ntmps87
  go_wp2_with fail
  go_quiet (fail)
  have h0 : (w.drewN nq).cell? ⟨b, o, none⟩ = some (.int .u8 x0) := h0
  clear c0 c1
  go_upto_if 134 with fail
  go_step
  with_reducible refine wp_exit ?_
  repeat (first | (with_reducible refine leave_then ?_) | (with_reducible refine leave_eq ?_) | (with_reducible refine leave_ne (by decide) ?_) | (with_reducible refine norm_in ?_) | (with_reducible refine norm_then ?_))
  go_wp2_with fail
  refine (hR31 _ _).mono ?_
  rintro e w' ⟨rfl, rfl⟩
  go_wp2_with fail
  refine (hFM _ _).mono ?_
  rintro e w' ⟨rfl, rfl⟩
  go_wp2_with fail
  refine (hFM _ _).mono ?_
  rintro e w' ⟨rfl, rfl⟩
  go_wp2_with fail
  refine bodyPost_ret (results_tmp2 rfl _ _ _) rfl ?_
  exact ⟨rfl, nq, rfl⟩

set_option maxRecDepth 100000 in
set_option maxHeartbeats 4000000 in
theorem s2n (y1 y2 len : Int) (x0 x1 : Int) : ∃ r1 r2 : Int, ∀ (d cap : Nat) (b o : Nat) (w : World), Dg w d y1 y2 → w.cell? ⟨b, o, none⟩ = some (.int .u8 x0) → w.cell? ⟨b, o + 1, none⟩ = some (.int .u8 x1) →
    Calls Try.prog 87 #[.pointer (some ⟨d, 0, none⟩), .bool false, .int .u64 len, .slice (some ⟨b, o, none⟩) 2 cap] w fun e w' => e = .returned (.tuple #[.int .u64 r1, .int .u64 r2]) ∧ ∃ k, w' = w.drewN k := by
  obtain ⟨R31, hR31⟩ := rot31_ex
  obtain ⟨R33, hR33⟩ := rot33_ex
  obtain ⟨FM, hFM⟩ := fmix_ex
  apply Exists.intro
  apply Exists.intro
  intro d cap b o w hd h0 h1
  have c0 : w.cell? ⟨d, 0, none⟩ = some (.int .u64 y1) := hd.cell 0 rfl
  have c1 : w.cell? ⟨d, 1, none⟩ = some (.int .u64 y2) := hd.cell 1 rfl
  have b1 : bits BinOp.and .i64 2 15 = 2 := by decide
  clear hd
  go_enter Try.func87, Try.ntmps87
  go_wp2_with fail
  go_quiet (fail)
  have h0 : (w.drewN nq).cell? ⟨b, o, none⟩ = some (.int .u8 x0) := h0
  have h1 : (w.drewN nq).cell? ⟨b, o + 1, none⟩ = some (.int .u8 x1) := h1
  clear c0 c1
  go_upto_if 132 with fail
  go_step
  with_reducible refine wp_exit ?_
  repeat (first | (with_reducible refine leave_then ?_) | (with_reducible refine leave_eq ?_) | (with_reducible refine leave_ne (by decide) ?_) | (with_reducible refine norm_in ?_) | (with_reducible refine norm_then ?_))
  go_wp2_with fail
  refine (hR31 _ _).mono ?_
  rintro e w' ⟨rfl, rfl⟩
  go_wp2_with fail
  refine (hFM _ _).mono ?_
  rintro e w' ⟨rfl, rfl⟩
  go_wp2_with fail
  refine (hFM _ _).mono ?_
  rintro e w' ⟨rfl, rfl⟩
  go_wp2_with fail
  refine bodyPost_ret (results_tmp2 rfl _ _ _) rfl ?_
  exact ⟨rfl, nq, rfl⟩

set_option maxRecDepth 100000 in
set_option maxHeartbeats 4000000 in
theorem s3n (y1 y2 len : Int) (x0 x1 x2 : Int) : ∃ r1 r2 : Int, ∀ (d cap : Nat) (b o : Nat) (w : World), Dg w d y1 y2 → w.cell? ⟨b, o, none⟩ = some (.int .u8 x0) → w.cell? ⟨b, o + 1, none⟩ = some (.int .u8 x1) → w.cell? ⟨b, o + 2, none⟩ = some (.int .u8 x2) →
    Calls Try.prog 87 #[.pointer (some ⟨d, 0, none⟩), .bool false, .int .u64 len, .slice (some ⟨b, o, none⟩) 3 cap] w fun e w' => e = .returned (.tuple #[.int .u64 r1, .int .u64 r2]) ∧ ∃ k, w' = w.drewN k := by
  obtain ⟨R31, hR31⟩ := rot31_ex
  obtain ⟨R33, hR33⟩ := rot33_ex
  obtain ⟨FM, hFM⟩ := fmix_ex
  apply Exists.intro
  apply Exists.intro
  intro d cap b o w hd h0 h1 h2
  have c0 : w.cell? ⟨d, 0, none⟩ = some (.int .u64 y1) := hd.cell 0 rfl
  have c1 : w.cell? ⟨d, 1, none⟩ = some (.int .u64 y2) := hd.cell 1 rfl
  have b1 : bits BinOp.and .i64 3 15 = 3 := by decide
  clear hd
  go_enter Try.func87, Try.ntmps87
  go_wp2_with fail
  go_quiet (fail)
  have h0 : (w.drewN nq).cell? ⟨b, o, none⟩ = some (.int .u8 x0) := h0
  have h1 : (w.drewN nq).cell? ⟨b, o + 1, none⟩ = some (.int .u8 x1) := h1
  have h2 : (w.drewN nq).cell? ⟨b, o + 2, none⟩ = some (.int .u8 x2) := h2
  clear c0 c1
  go_upto_if 130 with fail
  go_step
  with_reducible refine wp_exit ?_
  repeat (first | (with_reducible refine leave_then ?_) | (with_reducible refine leave_eq ?_) | (with_reducible refine leave_ne (by decide) ?_) | (with_reducible refine norm_in ?_) | (with_reducible refine norm_then ?_))
  go_wp2_with fail
  refine (hR31 _ _).mono ?_
  rintro e w' ⟨rfl, rfl⟩
  go_wp2_with fail
  refine (hFM _ _).mono ?_
  rintro e w' ⟨rfl, rfl⟩
  go_wp2_with fail
  refine (hFM _ _).mono ?_
  rintro e w' ⟨rfl, rfl⟩
  go_wp2_with fail
  refine bodyPost_ret (results_tmp2 rfl _ _ _) rfl ?_
  exact ⟨rfl, nq, rfl⟩

set_option maxRecDepth 100000 in
set_option maxHeartbeats 4000000 in
theorem s4n (y1 y2 len : Int) (x0 x1 x2 x3 : Int) : ∃ r1 r2 : Int, ∀ (d cap : Nat) (b o : Nat) (w : World), Dg w d y1 y2 → w.cell? ⟨b, o, none⟩ = some (.int .u8 x0) → w.cell? ⟨b, o + 1, none⟩ = some (.int .u8 x1) → w.cell? ⟨b, o + 2, none⟩ = some (.int .u8 x2) → w.cell? ⟨b, o + 3, none⟩ = some (.int .u8 x3) →
    Calls Try.prog 87 #[.pointer (some ⟨d, 0, none⟩), .bool false, .int .u64 len, .slice (some ⟨b, o, none⟩) 4 cap] w fun e w' => e = .returned (.tuple #[.int .u64 r1, .int .u64 r2]) ∧ ∃ k, w' = w.drewN k := by
  obtain ⟨R31, hR31⟩ := rot31_ex
  obtain ⟨R33, hR33⟩ := rot33_ex
  obtain ⟨FM, hFM⟩ := fmix_ex
  apply Exists.intro
  apply Exists.intro
  intro d cap b o w hd h0 h1 h2 h3
  have c0 : w.cell? ⟨d, 0, none⟩ = some (.int .u64 y1) := hd.cell 0 rfl
  have c1 : w.cell? ⟨d, 1, none⟩ = some (.int .u64 y2) := hd.cell 1 rfl
  have b1 : bits BinOp.and .i64 4 15 = 4 := by decide
  clear hd
  go_enter Try.func87, Try.ntmps87
  go_wp2_with fail
  go_quiet (fail)
  have h0 : (w.drewN nq).cell? ⟨b, o, none⟩ = some (.int .u8 x0) := h0
  have h1 : (w.drewN nq).cell? ⟨b, o + 1, none⟩ = some (.int .u8 x1) := h1
  have h2 : (w.drewN nq).cell? ⟨b, o + 2, none⟩ = some (.int .u8 x2) := h2
  have h3 : (w.drewN nq).cell? ⟨b, o + 3, none⟩ = some (.int .u8 x3) := h3
  clear c0 c1
  go_upto_if 128 with fail
  go_step
  with_reducible refine wp_exit ?_
  repeat (first | (with_reducible refine leave_then ?_) | (with_reducible refine leave_eq ?_) | (with_reducible refine leave_ne (by decide) ?_) | (with_reducible refine norm_in ?_) | (with_reducible refine norm_then ?_))
  go_wp2_with fail
  refine (hR31 _ _).mono ?_
  rintro e w' ⟨rfl, rfl⟩
  go_wp2_with fail
  refine (hFM _ _).mono ?_
  rintro e w' ⟨rfl, rfl⟩
  go_wp2_with fail
  refine (hFM _ _).mono ?_
  rintro e w' ⟨rfl, rfl⟩
  go_wp2_with fail
  refine bodyPost_ret (results_tmp2 rfl _ _ _) rfl ?_
  exact ⟨rfl, nq, rfl⟩

set_option maxRecDepth 100000 in
set_option maxHeartbeats 4000000 in
theorem s5n (y1 y2 len : Int) (x0 x1 x2 x3 x4 : Int) : ∃ r1 r2 : Int, ∀ (d cap : Nat) (b o : Nat) (w : World), Dg w d y1 y2 → w.cell? ⟨b, o, none⟩ = some (.int .u8 x0) → w.cell? ⟨b, o + 1, none⟩ = some (.int .u8 x1) → w.cell? ⟨b, o + 2, none⟩ = some (.int .u8 x2) → w.cell? ⟨b, o + 3, none⟩ = some (.int .u8 x3) → w.cell? ⟨b, o + 4, none⟩ = some (.int .u8 x4) →
    Calls Try.prog 87 #[.pointer (some ⟨d, 0, none⟩), .bool false, .int .u64 len, .slice (some ⟨b, o, none⟩) 5 cap] w fun e w' => e = .returned (.tuple #[.int .u64 r1, .int .u64 r2]) ∧ ∃ k, w' = w.drewN k := by
  obtain ⟨R31, hR31⟩ := rot31_ex
  obtain ⟨R33, hR33⟩ := rot33_ex
  obtain ⟨FM, hFM⟩ := fmix_ex
  apply Exists.intro
  apply Exists.intro
  intro d cap b o w hd h0 h1 h2 h3 h4
  have c0 : w.cell? ⟨d, 0, none⟩ = some (.int .u64 y1) := hd.cell 0 rfl
  have c1 : w.cell? ⟨d, 1, none⟩ = some (.int .u64 y2) := hd.cell 1 rfl
  have b1 : bits BinOp.and .i64 5 15 = 5 := by decide
  clear hd
  go_enter Try.func87, Try.ntmps87
  go_wp2_with fail
  go_quiet (fail)
  have h0 : (w.drewN nq).cell? ⟨b, o, none⟩ = some (.int .u8 x0) := h0
  have h1 : (w.drewN nq).cell? ⟨b, o + 1, none⟩ = some (.int .u8 x1) := h1
  have h2 : (w.drewN nq).cell? ⟨b, o + 2, none⟩ = some (.int .u8 x2) := h2
  have h3 : (w.drewN nq).cell? ⟨b, o + 3, none⟩ = some (.int .u8 x3) := h3
  have h4 : (w.drewN nq).cell? ⟨b, o + 4, none⟩ = some (.int .u8 x4) := h4
  clear c0 c1
  go_upto_if 126 with fail
  go_step
  with_reducible refine wp_exit ?_
  repeat (first | (with_reducible refine leave_then ?_) | (with_reducible refine leave_eq ?_) | (with_reducible refine leave_ne (by decide) ?_) | (with_reducible refine norm_in ?_) | (with_reducible refine norm_then ?_))
  go_wp2_with fail
  refine (hR31 _ _).mono ?_
  rintro e w' ⟨rfl, rfl⟩
  go_wp2_with fail
  refine (hFM _ _).mono ?_
  rintro e w' ⟨rfl, rfl⟩
  go_wp2_with fail
  refine (hFM _ _).mono ?_
  rintro e w' ⟨rfl, rfl⟩
  go_wp2_with fail
  refine bodyPost_ret (results_tmp2 rfl _ _ _) rfl ?_
  exact ⟨rfl, nq, rfl⟩

set_option maxRecDepth 100000 in
set_option maxHeartbeats 4000000 in
theorem s6n (y1 y2 len : Int) (x0 x1 x2 x3 x4 x5 : Int) : ∃ r1 r2 : Int, ∀ (d cap : Nat) (b o : Nat) (w : World), Dg w d y1 y2 → w.cell? ⟨b, o, none⟩ = some (.int .u8 x0) → w.cell? ⟨b, o + 1, none⟩ = some (.int .u8 x1) → w.cell? ⟨b, o + 2, none⟩ = some (.int .u8 x2) → w.cell? ⟨b, o + 3, none⟩ = some (.int .u8 x3) → w.cell? ⟨b, o + 4, none⟩ = some (.int .u8 x4) → w.cell? ⟨b, o + 5, none⟩ = some (.int .u8 x5) →
    Calls Try.prog 87 #[.pointer (some ⟨d, 0, none⟩), .bool false, .int .u64 len, .slice (some ⟨b, o, none⟩) 6 cap] w fun e w' => e = .returned (.tuple #[.int .u64 r1, .int .u64 r2]) ∧ ∃ k, w' = w.drewN k := by
  obtain ⟨R31, hR31⟩ := rot31_ex
  obtain ⟨R33, hR33⟩ := rot33_ex
  obtain ⟨FM, hFM⟩ := fmix_ex
  apply Exists.intro
  apply Exists.intro
  intro d cap b o w hd h0 h1 h2 h3 h4 h5
  have c0 : w.cell? ⟨d, 0, none⟩ = some (.int .u64 y1) := hd.cell 0 rfl
  have c1 : w.cell? ⟨d, 1, none⟩ = some (.int .u64 y2) := hd.cell 1 rfl
  have b1 : bits BinOp.and .i64 6 15 = 6 := by decide
  clear hd
  go_enter Try.func87, Try.ntmps87
  go_wp2_with fail
  go_quiet (fail)
  have h0 : (w.drewN nq).cell? ⟨b, o, none⟩ = some (.int .u8 x0) := h0
  have h1 : (w.drewN nq).cell? ⟨b, o + 1, none⟩ = some (.int .u8 x1) := h1
  have h2 : (w.drewN nq).cell? ⟨b, o + 2, none⟩ = some (.int .u8 x2) := h2
  have h3 : (w.drewN nq).cell? ⟨b, o + 3, none⟩ = some (.int .u8 x3) := h3
  have h4 : (w.drewN nq).cell? ⟨b, o + 4, none⟩ = some (.int .u8 x4) := h4
  have h5 : (w.drewN nq).cell? ⟨b, o + 5, none⟩ = some (.int .u8 x5) := h5
  clear c0 c1
  go_upto_if 124 with fail
  go_step
  with_reducible refine wp_exit ?_
  repeat (first | (with_reducible refine leave_then ?_) | (with_reducible refine leave_eq ?_) | (with_reducible refine leave_ne (by decide) ?_) | (with_reducible refine norm_in ?_) | (with_reducible refine norm_then ?_))
  go_wp2_with fail
  refine (hR31 _ _).mono ?_
  rintro e w' ⟨rfl, rfl⟩
  go_wp2_with fail
  refine (hFM _ _).mono ?_
  rintro e w' ⟨rfl, rfl⟩
  go_wp2_with fail
  refine (hFM _ _).mono ?_
  rintro e w' ⟨rfl, rfl⟩
  go_wp2_with fail
  refine bodyPost_ret (results_tmp2 rfl _ _ _) rfl ?_
  exact ⟨rfl, nq, rfl⟩

set_option maxRecDepth 100000 in
set_option maxHeartbeats 4000000 in
theorem s7n (y1 y2 len : Int) (x0 x1 x2 x3 x4 x5 x6 : Int) : ∃ r1 r2 : Int, ∀ (d cap : Nat) (b o : Nat) (w : World), Dg w d y1 y2 → w.cell? ⟨b, o, none⟩ = some (.int .u8 x0) → w.cell? ⟨b, o + 1, none⟩ = some (.int .u8 x1) → w.cell? ⟨b, o + 2, none⟩ = some (.int .u8 x2) → w.cell? ⟨b, o + 3, none⟩ = some (.int .u8 x3) → w.cell? ⟨b, o + 4, none⟩ = some (.int .u8 x4) → w.cell? ⟨b, o + 5, none⟩ = some (.int .u8 x5) → w.cell? ⟨b, o + 6, none⟩ = some (.int .u8 x6) →
    Calls Try.prog 87 #[.pointer (some ⟨d, 0, none⟩), .bool false, .int .u64 len, .slice (some ⟨b, o, none⟩) 7 cap] w fun e w' => e = .returned (.tuple #[.int .u64 r1, .int .u64 r2]) ∧ ∃ k, w' = w.drewN k := by
  obtain ⟨R31, hR31⟩ := rot31_ex
  obtain ⟨R33, hR33⟩ := rot33_ex
  obtain ⟨FM, hFM⟩ := fmix_ex
  apply Exists.intro
  apply Exists.intro
  intro d cap b o w hd h0 h1 h2 h3 h4 h5 h6
  have c0 : w.cell? ⟨d, 0, none⟩ = some (.int .u64 y1) := hd.cell 0 rfl
  have c1 : w.cell? ⟨d, 1, none⟩ = some (.int .u64 y2) := hd.cell 1 rfl
  have b1 : bits BinOp.and .i64 7 15 = 7 := by decide
  clear hd
  go_enter Try.func87, Try.ntmps87
  go_wp2_with fail
  go_quiet (fail)
  have h0 : (w.drewN nq).cell? ⟨b, o, none⟩ = some (.int .u8 x0) := h0
  have h1 : (w.drewN nq).cell? ⟨b, o + 1, none⟩ = some (.int .u8 x1) := h1
  have h2 : (w.drewN nq).cell? ⟨b, o + 2, none⟩ = some (.int .u8 x2) := h2
  have h3 : (w.drewN nq).cell? ⟨b, o + 3, none⟩ = some (.int .u8 x3) := h3
  have h4 : (w.drewN nq).cell? ⟨b, o + 4, none⟩ = some (.int .u8 x4) := h4
  have h5 : (w.drewN nq).cell? ⟨b, o + 5, none⟩ = some (.int .u8 x5) := h5
  have h6 : (w.drewN nq).cell? ⟨b, o + 6, none⟩ = some (.int .u8 x6) := h6
  clear c0 c1
  go_upto_if 122 with fail
  go_step
  with_reducible refine wp_exit ?_
  repeat (first | (with_reducible refine leave_then ?_) | (with_reducible refine leave_eq ?_) | (with_reducible refine leave_ne (by decide) ?_) | (with_reducible refine norm_in ?_) | (with_reducible refine norm_then ?_))
  go_wp2_with fail
  refine (hR31 _ _).mono ?_
  rintro e w' ⟨rfl, rfl⟩
  go_wp2_with fail
  refine (hFM _ _).mono ?_
  rintro e w' ⟨rfl, rfl⟩
  go_wp2_with fail
  refine (hFM _ _).mono ?_
  rintro e w' ⟨rfl, rfl⟩
  go_wp2_with fail
  refine bodyPost_ret (results_tmp2 rfl _ _ _) rfl ?_
  exact ⟨rfl, nq, rfl⟩

end Go.Proofs.Ytbcbkieebelleaa
