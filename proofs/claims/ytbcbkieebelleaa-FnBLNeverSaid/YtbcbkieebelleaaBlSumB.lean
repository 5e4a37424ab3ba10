/- Walks of sum128 at one length of the tail each (printed by gen_sum128.py). -/
import Derived.Test.YtbcbkieebelleaaBlHash
import Derived.Outline
import Derived.Deep.CutBlock
namespace Go.Proofs.Ytbcbkieebelleaa
set_option linter.unusedVariables false
open Go.RowKit

set_option maxRecDepth 100000 in
set_option maxHeartbeats 4000000 in
theorem s8n (y1 y2 len : Int) (x0 x1 x2 x3 x4 x5 x6 x7 : Int) : ∃ r1 r2 : Int, ∀ (d cap : Nat) (b o : Nat) (w : World), Dg w d y1 y2 → w.cell? ⟨b, o, none⟩ = some (.int .u8 x0) → w.cell? ⟨b, o + 1, none⟩ = some (.int .u8 x1) → w.cell? ⟨b, o + 2, none⟩ = some (.int .u8 x2) → w.cell? ⟨b, o + 3, none⟩ = some (.int .u8 x3) → w.cell? ⟨b, o + 4, none⟩ = some (.int .u8 x4) → w.cell? ⟨b, o + 5, none⟩ = some (.int .u8 x5) → w.cell? ⟨b, o + 6, none⟩ = some (.int .u8 x6) → w.cell? ⟨b, o + 7, none⟩ = some (.int .u8 x7) →
    Calls Try.prog 87 #[.pointer (some ⟨d, 0, none⟩), .bool false, .int .u64 len, .slice (some ⟨b, o, none⟩) 8 cap] w fun e w' => e = .returned (.tuple #[.int .u64 r1, .int .u64 r2]) ∧ ∃ k, w' = w.drewN k := by
  obtain ⟨R31, hR31⟩ := rot31_ex
  obtain ⟨R33, hR33⟩ := rot33_ex
  obtain ⟨FM, hFM⟩ := fmix_ex
  apply Exists.intro
  apply Exists.intro
  intro d cap b o w hd h0 h1 h2 h3 h4 h5 h6 h7
  have c0 : w.cell? ⟨d, 0, none⟩ = some (.int .u64 y1) := hd.cell 0 rfl
  have c1 : w.cell? ⟨d, 1, none⟩ = some (.int .u64 y2) := hd.cell 1 rfl
  have b1 : bits BinOp.and .i64 8 15 = 8 := by decide
  clear hd
  go_enter Try.func87, Try.ntmps87
  go_wp2_with fail
  go_quiet (fail)
  have h0 : (w.drewN nq).cell? ⟨b, o, none⟩ = some (.int .u8 x0) := h0
  have h1 : (w.drewN nq).cell? ⟨b, o + 1, none⟩ = some (.int .u8 x1) := h1
  have h2 : (w.drewN nq).cell? ⟨b, o + 2, none⟩ = some (.int .u8 x2) := h2
  have h3 : (w.drewN nq).cell? ⟨b, o + 3, none⟩ = some (.int .u8 x3) := h3
  have h4 : (w.drewN nq).cell? ⟨b, o + 4, none⟩ = some (.int .u8 x4) := h4
  have h5 : (w.drewN nq).cell? ⟨b, o + 5, none⟩ = some (.int .u8 x5) := h5
  have h6 : (w.drewN nq).cell? ⟨b, o + 6, none⟩ = some (.int .u8 x6) := h6
  have h7 : (w.drewN nq).cell? ⟨b, o + 7, none⟩ = some (.int .u8 x7) := h7
  clear c0 c1
  go_upto_if 120 with fail
  go_step
  with_reducible refine wp_exit ?_
  repeat (first | (with_reducible refine leave_then ?_) | (with_reducible refine leave_eq ?_) | (with_reducible refine leave_ne (by decide) ?_) | (with_reducible refine norm_in ?_) | (with_reducible refine norm_then ?_))
  go_wp2_with fail
  refine (hR31 _ _).mono ?_
  rintro e w' ⟨rfl, rfl⟩
  go_wp2_with fail
  refine (hFM _ _).mono ?_
  rintro e w' ⟨rfl, rfl⟩
  go_wp2_with fail
  refine (hFM _ _).mono ?_
  rintro e w' ⟨rfl, rfl⟩
  go_wp2_with fail
  refine bodyPost_ret (results_tmp2 rfl _ _ _) rfl ?_
  exact ⟨rfl, nq, rfl⟩

set_option maxRecDepth 100000 in
set_option maxHeartbeats 4000000 in
theorem s9n (y1 y2 len : Int) (x0 x1 x2 x3 x4 x5 x6 x7 x8 : Int) : ∃ r1 r2 : Int, ∀ (d cap : Nat) (b o : Nat) (w : World), Dg w d y1 y2 → w.cell? ⟨b, o, none⟩ = some (.int .u8 x0) → w.cell? ⟨b, o + 1, none⟩ = some (.int .u8 x1) → w.cell? ⟨b, o + 2, none⟩ = some (.int .u8 x2) → w.cell? ⟨b, o + 3, none⟩ = some (.int .u8 x3) → w.cell? ⟨b, o + 4, none⟩ = some (.int .u8 x4) → w.cell? ⟨b, o + 5, none⟩ = some (.int .u8 x5) → w.cell? ⟨b, o + 6, none⟩ = some (.int .u8 x6) → w.cell? ⟨b, o + 7, none⟩ = some (.int .u8 x7) → w.cell? ⟨b, o + 8, none⟩ = some (.int .u8 x8) →
    Calls Try.prog 87 #[.pointer (some ⟨d, 0, none⟩), .bool false, .int .u64 len, .slice (some ⟨b, o, none⟩) 9 cap] w fun e w' => e = .returned (.tuple #[.int .u64 r1, .int .u64 r2]) ∧ ∃ k, w' = w.drewN k := by
  obtain ⟨R31, hR31⟩ := rot31_ex
  obtain ⟨R33, hR33⟩ := rot33_ex
  obtain ⟨FM, hFM⟩ := fmix_ex
  apply Exists.intro
  apply Exists.intro
  intro d cap b o w hd h0 h1 h2 h3 h4 h5 h6 h7 h8
  have c0 : w.cell? ⟨d, 0, none⟩ = some (.int .u64 y1) := hd.cell 0 rfl
  have c1 : w.cell? ⟨d, 1, none⟩ = some (.int .u64 y2) := hd.cell 1 rfl
  have b1 : bits BinOp.and .i64 9 15 = 9 := by decide
  clear hd
  go_enter Try.func87, Try.ntmps87
  go_wp2_with fail
  go_quiet (fail)
  have h0 : (w.drewN nq).cell? ⟨b, o, none⟩ = some (.int .u8 x0) := h0
  have h1 : (w.drewN nq).cell? ⟨b, o + 1, none⟩ = some (.int .u8 x1) := h1
  have h2 : (w.drewN nq).cell? ⟨b, o + 2, none⟩ = some (.int .u8 x2) := h2
  have h3 : (w.drewN nq).cell? ⟨b, o + 3, none⟩ = some (.int .u8 x3) := h3
  have h4 : (w.drewN nq).cell? ⟨b, o + 4, none⟩ = some (.int .u8 x4) := h4
  have h5 : (w.drewN nq).cell? ⟨b, o + 5, none⟩ = some (.int .u8 x5) := h5
  have h6 : (w.drewN nq).cell? ⟨b, o + 6, none⟩ = some (.int .u8 x6) := h6
  have h7 : (w.drewN nq).cell? ⟨b, o + 7, none⟩ = some (.int .u8 x7) := h7
  have h8 : (w.drewN nq).cell? ⟨b, o + 8, none⟩ = some (.int .u8 x8) := h8
  clear c0 c1
  go_upto_if 118 with fail
  go_step
  with_reducible refine wp_exit ?_
  repeat (first | (with_reducible refine leave_then ?_) | (with_reducible refine leave_eq ?_) | (with_reducible refine leave_ne (by decide) ?_) | (with_reducible refine norm_in ?_) | (with_reducible refine norm_then ?_))
  go_wp2_with fail
  refine (hR33 _ _).mono ?_
  rintro e w' ⟨rfl, rfl⟩
  go_wp2_with fail
  refine (hR31 _ _).mono ?_
  rintro e w' ⟨rfl, rfl⟩
  go_wp2_with fail
  refine (hFM _ _).mono ?_
  rintro e w' ⟨rfl, rfl⟩
  go_wp2_with fail
  refine (hFM _ _).mono ?_
  rintro e w' ⟨rfl, rfl⟩
  go_wp2_with fail
  refine bodyPost_ret (results_tmp2 rfl _ _ _) rfl ?_
  exact ⟨rfl, nq, rfl⟩

set_option maxRecDepth 100000 in
set_option maxHeartbeats 4000000 in
theorem s10n (y1 y2 len : Int) (x0 x1 x2 x3 x4 x5 x6 x7 x8 x9 : Int) : ∃ r1 r2 : Int, ∀ (d cap : Nat) (b o : Nat) (w : World), Dg w d y1 y2 → w.cell? ⟨b, o, none⟩ = some (.int .u8 x0) → w.cell? ⟨b, o + 1, none⟩ = some (.int .u8 x1) → w.cell? ⟨b, o + 2, none⟩ = some (.int .u8 x2) → w.cell? ⟨b, o + 3, none⟩ = some (.int .u8 x3) → w.cell? ⟨b, o + 4, none⟩ = some (.int .u8 x4) → w.cell? ⟨b, o + 5, none⟩ = some (.int .u8 x5) → w.cell? ⟨b, o + 6, none⟩ = some (.int .u8 x6) → w.cell? ⟨b, o + 7, none⟩ = some (.int .u8 x7) → w.cell? ⟨b, o + 8, none⟩ = some (.int .u8 x8) → w.cell? ⟨b, o + 9, none⟩ = some (.int .u8 x9) →
    Calls Try.prog 87 #[.pointer (some ⟨d, 0, none⟩), .bool false, .int .u64 len, .slice (some ⟨b, o, none⟩) 10 cap] w fun e w' => e = .returned (.tuple #[.int .u64 r1, .int .u64 r2]) ∧ ∃ k, w' = w.drewN k := by
  obtain ⟨R31, hR31⟩ := rot31_ex
  obtain ⟨R33, hR33⟩ := rot33_ex
  obtain ⟨FM, hFM⟩ := fmix_ex
  apply Exists.intro
  apply Exists.intro
  intro d cap b o w hd h0 h1 h2 h3 h4 h5 h6 h7 h8 h9
  have c0 : w.cell? ⟨d, 0, none⟩ = some (.int .u64 y1) := hd.cell 0 rfl
  have c1 : w.cell? ⟨d, 1, none⟩ = some (.int .u64 y2) := hd.cell 1 rfl
  have b1 : bits BinOp.and .i64 10 15 = 10 := by decide
  clear hd
  go_enter Try.func87, Try.ntmps87
  go_wp2_with fail
  go_quiet (fail)
  have h0 : (w.drewN nq).cell? ⟨b, o, none⟩ = some (.int .u8 x0) := h0
  have h1 : (w.drewN nq).cell? ⟨b, o + 1, none⟩ = some (.int .u8 x1) := h1
  have h2 : (w.drewN nq).cell? ⟨b, o + 2, none⟩ = some (.int .u8 x2) := h2
  have h3 : (w.drewN nq).cell? ⟨b, o + 3, none⟩ = some (.int .u8 x3) := h3
  have h4 : (w.drewN nq).cell? ⟨b, o + 4, none⟩ = some (.int .u8 x4) := h4
  have h5 : (w.drewN nq).cell? ⟨b, o + 5, none⟩ = some (.int .u8 x5) := h5
  have h6 : (w.drewN nq).cell? ⟨b, o + 6, none⟩ = some (.int .u8 x6) := h6
  have h7 : (w.drewN nq).cell? ⟨b, o + 7, none⟩ = some (.int .u8 x7) := h7
  have h8 : (w.drewN nq).cell? ⟨b, o + 8, none⟩ = some (.int .u8 x8) := h8
  have h9 : (w.drewN nq).cell? ⟨b, o + 9, none⟩ = some (.int .u8 x9) := h9
  clear c0 c1
  go_upto_if 116 with fail
  go_step
  with_reducible refine wp_exit ?_
  repeat (first | (with_reducible refine leave_then ?_) | (with_reducible refine leave_eq ?_) | (with_reducible refine leave_ne (by decide) ?_) | (with_reducible refine norm_in ?_) | (with_reducible refine norm_then ?_))
  go_wp2_with fail
  refine (hR33 _ _).mono ?_
  rintro e w' ⟨rfl, rfl⟩
  go_wp2_with fail
  refine (hR31 _ _).mono ?_
  rintro e w' ⟨rfl, rfl⟩
  go_wp2_with fail
  refine (hFM _ _).mono ?_
  rintro e w' ⟨rfl, rfl⟩
  go_wp2_with fail
  refine (hFM _ _).mono ?_
  rintro e w' ⟨rfl, rfl⟩
  go_wp2_with fail
  refine bodyPost_ret (results_tmp2 rfl _ _ _) rfl ?_
  exact ⟨rfl, nq, rfl⟩

set_option maxRecDepth 100000 in
set_option maxHeartbeats 4000000 in
theorem s11n (y1 y2 len : Int) (x0 x1 x2 x3 x4 x5 x6 x7 x8 x9 x10 : Int) : ∃ r1 r2 : Int, ∀ (d cap : Nat) (b o : Nat) (w : World), Dg w d y1 y2 → w.cell? ⟨b, o, none⟩ = some (.int .u8 x0) → w.cell? ⟨b, o + 1, none⟩ = some (.int .u8 x1) → w.cell? ⟨b, o + 2, none⟩ = some (.int .u8 x2) → w.cell? ⟨b, o + 3, none⟩ = some (.int .u8 x3) → w.cell? ⟨b, o + 4, none⟩ = some (.int .u8 x4) → w.cell? ⟨b, o + 5, none⟩ = some (.int .u8 x5) → w.cell? ⟨b, o + 6, none⟩ = some (.int .u8 x6) → w.cell? ⟨b, o + 7, none⟩ = some (.int .u8 x7) → w.cell? ⟨b, o + 8, none⟩ = some (.int .u8 x8) → w.cell? ⟨b, o + 9, none⟩ = some (.int .u8 x9) → w.cell? ⟨b, o + 10, none⟩ = some (.int .u8 x10) →
    Calls Try.prog 87 #[.pointer (some ⟨d, 0, none⟩), .bool false, .int .u64 len, .slice (some ⟨b, o, none⟩) 11 cap] w fun e w' => e = .returned (.tuple #[.int .u64 r1, .int .u64 r2]) ∧ ∃ k, w' = w.drewN k := by
  obtain ⟨R31, hR31⟩ := rot31_ex
  obtain ⟨R33, hR33⟩ := rot33_ex
  obtain ⟨FM, hFM⟩ := fmix_ex
  apply Exists.intro
  apply Exists.intro
  intro d cap b o w hd h0 h1 h2 h3 h4 h5 h6 h7 h8 h9 h10
  have c0 : w.cell? ⟨d, 0, none⟩ = some (.int .u64 y1) := hd.cell 0 rfl
  have c1 : w.cell? ⟨d, 1, none⟩ = some (.int .u64 y2) := hd.cell 1 rfl
  have b1 : bits BinOp.and .i64 11 15 = 11 := by decide
  clear hd
  go_enter Try.func87, Try.ntmps87
  go_wp2_with fail
  go_quiet (fail)
  have h0 : (w.drewN nq).cell? ⟨b, o, none⟩ = some (.int .u8 x0) := h0
  have h1 : (w.drewN nq).cell? ⟨b, o + 1, none⟩ = some (.int .u8 x1) := h1
  have h2 : (w.drewN nq).cell? ⟨b, o + 2, none⟩ = some (.int .u8 x2) := h2
  have h3 : (w.drewN nq).cell? ⟨b, o + 3, none⟩ = some (.int .u8 x3) := h3
  have h4 : (w.drewN nq).cell? ⟨b, o + 4, none⟩ = some (.int .u8 x4) := h4
  have h5 : (w.drewN nq).cell? ⟨b, o + 5, none⟩ = some (.int .u8 x5) := h5
  have h6 : (w.drewN nq).cell? ⟨b, o + 6, none⟩ = some (.int .u8 x6) := h6
  have h7 : (w.drewN nq).cell? ⟨b, o + 7, none⟩ = some (.int .u8 x7) := h7
  have h8 : (w.drewN nq).cell? ⟨b, o + 8, none⟩ = some (.int .u8 x8) := h8
  have h9 : (w.drewN nq).cell? ⟨b, o + 9, none⟩ = some (.int .u8 x9) := h9
  have h10 : (w.drewN nq).cell? ⟨b, o + 10, none⟩ = some (.int .u8 x10) := h10
  clear c0 c1
  go_upto_if 114 with fail
  go_step
  with_reducible refine wp_exit ?_
  repeat (first | (with_reducible refine leave_then ?_) | (with_reducible refine leave_eq ?_) | (with_reducible refine leave_ne (by decide) ?_) | (with_reducible refine norm_in ?_) | (with_reducible refine norm_then ?_))
  go_wp2_with fail
  refine (hR33 _ _).mono ?_
  rintro e w' ⟨rfl, rfl⟩
  go_wp2_with fail
  refine (hR31 _ _).mono ?_
  rintro e w' ⟨rfl, rfl⟩
  go_wp2_with fail
  refine (hFM _ _).mono ?_
  rintro e w' ⟨rfl, rfl⟩
  go_wp2_with fail
  refine (hFM _ _).mono ?_
  rintro e w' ⟨rfl, rfl⟩
  go_wp2_with fail
  refine bodyPost_ret (results_tmp2 rfl _ _ _) rfl ?_
  exact ⟨rfl, nq, rfl⟩

set_option maxRecDepth 100000 in
set_option maxHeartbeats 4000000 in
theorem s12n (y1 y2 len : Int) (x0 x1 x2 x3 x4 x5 x6 x7 x8 x9 x10 x11 : Int) : ∃ r1 r2 : Int, ∀ (d cap : Nat) (b o : Nat) (w : World), Dg w d y1 y2 → w.cell? ⟨b, o, none⟩ = some (.int .u8 x0) → w.cell? ⟨b, o + 1, none⟩ = some (.int .u8 x1) → w.cell? ⟨b, o + 2, none⟩ = some (.int .u8 x2) → w.cell? ⟨b, o + 3, none⟩ = some (.int .u8 x3) → w.cell? ⟨b, o + 4, none⟩ = some (.int .u8 x4) → w.cell? ⟨b, o + 5, none⟩ = some (.int .u8 x5) → w.cell? ⟨b, o + 6, none⟩ = some (.int .u8 x6) → w.cell? ⟨b, o + 7, none⟩ = some (.int .u8 x7) → w.cell? ⟨b, o + 8, none⟩ = some (.int .u8 x8) → w.cell? ⟨b, o + 9, none⟩ = some (.int .u8 x9) → w.cell? ⟨b, o + 10, none⟩ = some (.int .u8 x10) → w.cell? ⟨b, o + 11, none⟩ = some (.int .u8 x11) →
    Calls Try.prog 87 #[.pointer (some ⟨d, 0, none⟩), .bool false, .int .u64 len, .slice (some ⟨b, o, none⟩) 12 cap] w fun e w' => e = .returned (.tuple #[.int .u64 r1, .int .u64 r2]) ∧ ∃ k, w' = w.drewN k := by
  obtain ⟨R31, hR31⟩ := rot31_ex
  obtain ⟨R33, hR33⟩ := rot33_ex
  obtain ⟨FM, hFM⟩ := fmix_ex
  apply Exists.intro
  apply Exists.intro
  intro d cap b o w hd h0 h1 h2 h3 h4 h5 h6 h7 h8 h9 h10 h11
  have c0 : w.cell? ⟨d, 0, none⟩ = some (.int .u64 y1) := hd.cell 0 rfl
  have c1 : w.cell? ⟨d, 1, none⟩ = some (.int .u64 y2) := hd.cell 1 rfl
  have b1 : bits BinOp.and .i64 12 15 = 12 := by decide
  clear hd
  go_enter Try.func87, Try.ntmps87
  go_wp2_with fail
  go_quiet (fail)
  have h0 : (w.drewN nq).cell? ⟨b, o, none⟩ = some (.int .u8 x0) := h0
  have h1 : (w.drewN nq).cell? ⟨b, o + 1, none⟩ = some (.int .u8 x1) := h1
  have h2 : (w.drewN nq).cell? ⟨b, o + 2, none⟩ = some (.int .u8 x2) := h2
  have h3 : (w.drewN nq).cell? ⟨b, o + 3, none⟩ = some (.int .u8 x3) := h3
  have h4 : (w.drewN nq).cell? ⟨b, o + 4, none⟩ = some (.int .u8 x4) := h4
  have h5 : (w.drewN nq).cell? ⟨b, o + 5, none⟩ = some (.int .u8 x5) := h5
  have h6 : (w.drewN nq).cell? ⟨b, o + 6, none⟩ = some (.int .u8 x6) := h6
  have h7 : (w.drewN nq).cell? ⟨b, o + 7, none⟩ = some (.int .u8 x7) := h7
  have h8 : (w.drewN nq).cell? ⟨b, o + 8, none⟩ = some (.int .u8 x8) := h8
  have h9 : (w.drewN nq).cell? ⟨b, o + 9, none⟩ = some (.int .u8 x9) := h9
  have h10 : (w.drewN nq).cell? ⟨b, o + 10, none⟩ = some (.int .u8 x10) := h10
  have h11 : (w.drewN nq).cell? ⟨b, o + 11, none⟩ = some (.int .u8 x11) := h11
  clear c0 c1
  go_upto_if 112 with fail
  go_step
  with_reducible refine wp_exit ?_
  repeat (first | (with_reducible refine leave_then ?_) | (with_reducible refine leave_eq ?_) | (with_reducible refine leave_ne (by decide) ?_) | (with_reducible refine norm_in ?_) | (with_reducible refine norm_then ?_))
  go_wp2_with fail
  refine (hR33 _ _).mono ?_
  rintro e w' ⟨rfl, rfl⟩
  go_wp2_with fail
  refine (hR31 _ _).mono ?_
  rintro e w' ⟨rfl, rfl⟩
  go_wp2_with fail
  refine (hFM _ _).mono ?_
  rintro e w' ⟨rfl, rfl⟩
  go_wp2_with fail
  refine (hFM _ _).mono ?_
  rintro e w' ⟨rfl, rfl⟩
  go_wp2_with fail
  refine bodyPost_ret (results_tmp2 rfl _ _ _) rfl ?_
  exact ⟨rfl, nq, rfl⟩

set_option maxRecDepth 100000 in
set_option maxHeartbeats 4000000 in
theorem s13n (y1 y2 len : Int) (x0 x1 x2 x3 x4 x5 x6 x7 x8 x9 x10 x11 x12 : Int) : ∃ r1 r2 : Int, ∀ (d cap : Nat) (b o : Nat) (w : World), Dg w d y1 y2 → w.cell? ⟨b, o, none⟩ = some (.int .u8 x0) → w.cell? ⟨b, o + 1, none⟩ = some (.int .u8 x1) → w.cell? ⟨b, o + 2, none⟩ = some (.int .u8 x2) → w.cell? ⟨b, o + 3, none⟩ = some (.int .u8 x3) → w.cell? ⟨b, o + 4, none⟩ = some (.int .u8 x4) → w.cell? ⟨b, o + 5, none⟩ = some (.int .u8 x5) → w.cell? ⟨b, o + 6, none⟩ = some (.int .u8 x6) → w.cell? ⟨b, o + 7, none⟩ = some (.int .u8 x7) → w.cell? ⟨b, o + 8, none⟩ = some (.int .u8 x8) → w.cell? ⟨b, o + 9, none⟩ = some (.int .u8 x9) → w.cell? ⟨b, o + 10, none⟩ = some (.int .u8 x10) → w.cell? ⟨b, o + 11, none⟩ = some (.int .u8 x11) → w.cell? ⟨b, o + 12, none⟩ = some (.int .u8 x12) →
    Calls Try.prog 87 #[.pointer (some ⟨d, 0, none⟩), .bool false, .int .u64 len, .slice (some ⟨b, o, none⟩) 13 cap] w fun e w' => e = .returned (.tuple #[.int .u64 r1, .int .u64 r2]) ∧ ∃ k, w' = w.drewN k := by
  obtain ⟨R31, hR31⟩ := rot31_ex
  obtain ⟨R33, hR33⟩ := rot33_ex
  obtain ⟨FM, hFM⟩ := fmix_ex
  apply Exists.intro
  apply Exists.intro
  intro d cap b o w hd h0 h1 h2 h3 h4 h5 h6 h7 h8 h9 h10 h11 h12
  have c0 : w.cell? ⟨d, 0, none⟩ = some (.int .u64 y1) := hd.cell 0 rfl
  have c1 : w.cell? ⟨d, 1, none⟩ = some (.int .u64 y2) := hd.cell 1 rfl
  have b1 : bits BinOp.and .i64 13 15 = 13 := by decide
  clear hd
  go_enter Try.func87, Try.ntmps87
  go_wp2_with fail
  go_quiet (fail)
  have h0 : (w.drewN nq).cell? ⟨b, o, none⟩ = some (.int .u8 x0) := h0
  have h1 : (w.drewN nq).cell? ⟨b, o + 1, none⟩ = some (.int .u8 x1) := h1
  have h2 : (w.drewN nq).cell? ⟨b, o + 2, none⟩ = some (.int .u8 x2) := h2
  have h3 : (w.drewN nq).cell? ⟨b, o + 3, none⟩ = some (.int .u8 x3) := h3
  have h4 : (w.drewN nq).cell? ⟨b, o + 4, none⟩ = some (.int .u8 x4) := h4
  have h5 : (w.drewN nq).cell? ⟨b, o + 5, none⟩ = some (.int .u8 x5) := h5
  have h6 : (w.drewN nq).cell? ⟨b, o + 6, none⟩ = some (.int .u8 x6) := h6
  have h7 : (w.drewN nq).cell? ⟨b, o + 7, none⟩ = some (.int .u8 x7) := h7
  have h8 : (w.drewN nq).cell? ⟨b, o + 8, none⟩ = some (.int .u8 x8) := h8
  have h9 : (w.drewN nq).cell? ⟨b, o + 9, none⟩ = some (.int .u8 x9) := h9
  have h10 : (w.drewN nq).cell? ⟨b, o + 10, none⟩ = some (.int .u8 x10) := h10
  have h11 : (w.drewN nq).cell? ⟨b, o + 11, none⟩ = some (.int .u8 x11) := h11
  have h12 : (w.drewN nq).cell? ⟨b, o + 12, none⟩ = some (.int .u8 x12) := h12
  clear c0 c1
  go_upto_if 110 with fail
  go_step
  with_reducible refine wp_exit ?_
  repeat (first | (with_reducible refine leave_then ?_) | (with_reducible refine leave_eq ?_) | (with_reducible refine leave_ne (by decide) ?_) | (with_reducible refine norm_in ?_) | (with_reducible refine norm_then ?_))
  go_wp2_with fail
  refine (hR33 _ _).mono ?_
  rintro e w' ⟨rfl, rfl⟩
  go_wp2_with fail
  refine (hR31 _ _).mono ?_
  rintro e w' ⟨rfl, rfl⟩
  go_wp2_with fail
  refine (hFM _ _).mono ?_
  rintro e w' ⟨rfl, rfl⟩
  go_wp2_with fail
  refine (hFM _ _).mono ?_
  rintro e w' ⟨rfl, rfl⟩
  go_wp2_with fail
  refine bodyPost_ret (results_tmp2 rfl _ _ _) rfl ?_
  exact ⟨rfl, nq, rfl⟩

set_option maxRecDepth 100000 in
set_option maxHeartbeats 4000000 in
theorem s14n (y1 y2 len : Int) (x0 x1 x2 x3 x4 x5 x6 x7 x8 x9 x10 x11 x12 x13 : Int) : ∃ r1 r2 : Int, ∀ (d cap : Nat) (b o : Nat) (w : World), Dg w d y1 y2 → w.cell? ⟨b, o, none⟩ = some (.int .u8 x0) → w.cell? ⟨b, o + 1, none⟩ = some (.int .u8 x1) → w.cell? ⟨b, o + 2, none⟩ = some (.int .u8 x2) → w.cell? ⟨b, o + 3, none⟩ = some (.int .u8 x3) → w.cell? ⟨b, o + 4, none⟩ = some (.int .u8 x4) → w.cell? ⟨b, o + 5, none⟩ = some (.int .u8 x5) → w.cell? ⟨b, o + 6, none⟩ = some (.int .u8 x6) → w.cell? ⟨b, o + 7, none⟩ = some (.int .u8 x7) → w.cell? ⟨b, o + 8, none⟩ = some (.int .u8 x8) → w.cell? ⟨b, o + 9, none⟩ = some (.int .u8 x9) → w.cell? ⟨b, o + 10, none⟩ = some (.int .u8 x10) → w.cell? ⟨b, o + 11, none⟩ = some (.int .u8 x11) → w.cell? ⟨b, o + 12, none⟩ = some (.int .u8 x12) → w.cell? ⟨b, o + 13, none⟩ = some (.int .u8 x13) →
    Calls Try.prog 87 #[.pointer (some ⟨d, 0, none⟩), .bool false, .int .u64 len, .slice (some ⟨b, o, none⟩) 14 cap] w fun e w' => e = .returned (.tuple #[.int .u64 r1, .int .u64 r2]) ∧ ∃ k, w' = w.drewN k := by
  obtain ⟨R31, hR31⟩ := rot31_ex
  obtain ⟨R33, hR33⟩ := rot33_ex
  obtain ⟨FM, hFM⟩ := fmix_ex
  apply Exists.intro
  apply Exists.intro
  intro d cap b o w hd h0 h1 h2 h3 h4 h5 h6 h7 h8 h9 h10 h11 h12 h13
  have c0 : w.cell? ⟨d, 0, none⟩ = some (.int .u64 y1) := hd.cell 0 rfl
  have c1 : w.cell? ⟨d, 1, none⟩ = some (.int .u64 y2) := hd.cell 1 rfl
  have b1 : bits BinOp.and .i64 14 15 = 14 := by decide
  clear hd
  go_enter Try.func87, Try.ntmps87
  go_wp2_with fail
  go_quiet (fail)
  have h0 : (w.drewN nq).cell? ⟨b, o, none⟩ = some (.int .u8 x0) := h0
  have h1 : (w.drewN nq).cell? ⟨b, o + 1, none⟩ = some (.int .u8 x1) := h1
  have h2 : (w.drewN nq).cell? ⟨b, o + 2, none⟩ = some (.int .u8 x2) := h2
  have h3 : (w.drewN nq).cell? ⟨b, o + 3, none⟩ = some (.int .u8 x3) := h3
  have h4 : (w.drewN nq).cell? ⟨b, o + 4, none⟩ = some (.int .u8 x4) := h4
  have h5 : (w.drewN nq).cell? ⟨b, o + 5, none⟩ = some (.int .u8 x5) := h5
  have h6 : (w.drewN nq).cell? ⟨b, o + 6, none⟩ = some (.int .u8 x6) := h6
  have h7 : (w.drewN nq).cell? ⟨b, o + 7, none⟩ = some (.int .u8 x7) := h7
  have h8 : (w.drewN nq).cell? ⟨b, o + 8, none⟩ = some (.int .u8 x8) := h8
  have h9 : (w.drewN nq).cell? ⟨b, o + 9, none⟩ = some (.int .u8 x9) := h9
  have h10 : (w.drewN nq).cell? ⟨b, o + 10, none⟩ = some (.int .u8 x10) := h10
  have h11 : (w.drewN nq).cell? ⟨b, o + 11, none⟩ = some (.int .u8 x11) := h11
  have h12 : (w.drewN nq).cell? ⟨b, o + 12, none⟩ = some (.int .u8 x12) := h12
  have h13 : (w.drewN nq).cell? ⟨b, o + 13, none⟩ = some (.int .u8 x13) := h13
  clear c0 c1
  go_upto_if 108 with fail
  go_step
  with_reducible refine wp_exit ?_
  repeat (first | (with_reducible refine leave_then ?_) | (with_reducible refine leave_eq ?_) | (with_reducible refine leave_ne (by decide) ?_) | (with_reducible refine norm_in ?_) | (with_reducible refine norm_then ?_))
  go_wp2_with fail
  refine (hR33 _ _).mono ?_
  rintro e w' ⟨rfl, rfl⟩
  go_wp2_with fail
  refine (hR31 _ _).mono ?_
  rintro e w' ⟨rfl, rfl⟩
  go_wp2_with fail
  refine (hFM _ _).mono ?_
  rintro e w' ⟨rfl, rfl⟩
  go_wp2_with fail
  refine (hFM _ _).mono ?_
  rintro e w' ⟨rfl, rfl⟩
  go_wp2_with fail
  refine bodyPost_ret (results_tmp2 rfl _ _ _) rfl ?_
  exact ⟨rfl, nq, rfl⟩

set_option maxRecDepth 100000 in
set_option maxHeartbeats 4000000 in
theorem s15n (y1 y2 len : Int) (x0 x1 x2 x3 x4 x5 x6 x7 x8 x9 x10 x11 x12 x13 x14 : Int) : ∃ r1 r2 : Int, ∀ (d cap : Nat) (b o : Nat) (w : World), Dg w d y1 y2 → w.cell? ⟨b, o, none⟩ = some (.int .u8 x0) → w.cell? ⟨b, o + 1, none⟩ = some (.int .u8 x1) → w.cell? ⟨b, o + 2, none⟩ = some (.int .u8 x2) → w.cell? ⟨b, o + 3, none⟩ = some (.int .u8 x3) → w.cell? ⟨b, o + 4, none⟩ = some (.int .u8 x4) → w.cell? ⟨b, o + 5, none⟩ = some (.int .u8 x5) → w.cell? ⟨b, o + 6, none⟩ = some (.int .u8 x6) → w.cell? ⟨b, o + 7, none⟩ = some (.int .u8 x7) → w.cell? ⟨b, o + 8, none⟩ = some (.int .u8 x8) → w.cell? ⟨b, o + 9, none⟩ = some (.int .u8 x9) → w.cell? ⟨b, o + 10, none⟩ = some (.int .u8 x10) → w.cell? ⟨b, o + 11, none⟩ = some (.int .u8 x11) → w.cell? ⟨b, o + 12, none⟩ = some (.int .u8 x12) → w.cell? ⟨b, o + 13, none⟩ = some (.int .u8 x13) → w.cell? ⟨b, o + 14, none⟩ = some (.int .u8 x14) →
    Calls Try.prog 87 #[.pointer (some ⟨d, 0, none⟩), .bool false, .int .u64 len, .slice (some ⟨b, o, none⟩) 15 cap] w fun e w' => e = .returned (.tuple #[.int .u64 r1, .int .u64 r2]) ∧ ∃ k, w' = w.drewN k := by
  obtain ⟨R31, hR31⟩ := rot31_ex
  obtain ⟨R33, hR33⟩ := rot33_ex
  obtain ⟨FM, hFM⟩ := fmix_ex
  apply Exists.intro
  apply Exists.intro
  intro d cap b o w hd h0 h1 h2 h3 h4 h5 h6 h7 h8 h9 h10 h11 h12 h13 h14
  have c0 : w.cell? ⟨d, 0, none⟩ = some (.int .u64 y1) := hd.cell 0 rfl
  have c1 : w.cell? ⟨d, 1, none⟩ = some (.int .u64 y2) := hd.cell 1 rfl
  have b1 : bits BinOp.and .i64 15 15 = 15 := by decide
  clear hd
  go_enter Try.func87, Try.ntmps87
  go_wp2_with fail
  go_quiet (fail)
  have h0 : (w.drewN nq).cell? ⟨b, o, none⟩ = some (.int .u8 x0) := h0
  have h1 : (w.drewN nq).cell? ⟨b, o + 1, none⟩ = some (.int .u8 x1) := h1
  have h2 : (w.drewN nq).cell? ⟨b, o + 2, none⟩ = some (.int .u8 x2) := h2
  have h3 : (w.drewN nq).cell? ⟨b, o + 3, none⟩ = some (.int .u8 x3) := h3
  have h4 : (w.drewN nq).cell? ⟨b, o + 4, none⟩ = some (.int .u8 x4) := h4
  have h5 : (w.drewN nq).cell? ⟨b, o + 5, none⟩ = some (.int .u8 x5) := h5
  have h6 : (w.drewN nq).cell? ⟨b, o + 6, none⟩ = some (.int .u8 x6) := h6
  have h7 : (w.drewN nq).cell? ⟨b, o + 7, none⟩ = some (.int .u8 x7) := h7
  have h8 : (w.drewN nq).cell? ⟨b, o + 8, none⟩ = some (.int .u8 x8) := h8
  have h9 : (w.drewN nq).cell? ⟨b, o + 9, none⟩ = some (.int .u8 x9) := h9
  have h10 : (w.drewN nq).cell? ⟨b, o + 10, none⟩ = some (.int .u8 x10) := h10
  have h11 : (w.drewN nq).cell? ⟨b, o + 11, none⟩ = some (.int .u8 x11) := h11
  have h12 : (w.drewN nq).cell? ⟨b, o + 12, none⟩ = some (.int .u8 x12) := h12
  have h13 : (w.drewN nq).cell? ⟨b, o + 13, none⟩ = some (.int .u8 x13) := h13
  have h14 : (w.drewN nq).cell? ⟨b, o + 14, none⟩ = some (.int .u8 x14) := h14
  clear c0 c1
  go_upto_if 106 with fail
  go_step
  with_reducible refine wp_exit ?_
  repeat (first | (with_reducible refine leave_then ?_) | (with_reducible refine leave_eq ?_) | (with_reducible refine leave_ne (by decide) ?_) | (with_reducible refine norm_in ?_) | (with_reducible refine norm_then ?_))
  go_wp2_with fail
  refine (hR33 _ _).mono ?_
  rintro e w' ⟨rfl, rfl⟩
  go_wp2_with fail
  refine (hR31 _ _).mono ?_
  rintro e w' ⟨rfl, rfl⟩
  go_wp2_with fail
  refine (hFM _ _).mono ?_
  rintro e w' ⟨rfl, rfl⟩
  go_wp2_with fail
  refine (hFM _ _).mono ?_
  rintro e w' ⟨rfl, rfl⟩
  go_wp2_with fail
  refine bodyPost_ret (results_tmp2 rfl _ _ _) rfl ?_
  exact ⟨rfl, nq, rfl⟩

end Go.Proofs.Ytbcbkieebelleaa
