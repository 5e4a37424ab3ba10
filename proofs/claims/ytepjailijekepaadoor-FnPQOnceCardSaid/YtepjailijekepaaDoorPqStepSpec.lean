/- Walk of spec's Step. -/
import Derived.Test.YtepjailijekepaaDoorPqTaken
namespace Go.Proofs.YtepjailijekepaaDoor
set_option linter.unusedVariables false
open Go.RowKit
open Pqm

set_option maxRecDepth 100000 in
set_option maxHeartbeats 2000000 in
theorem sp1g (qa ta sa : Option Addr) (qn qc tn tc sn sc : Nat) (dup is gone : Bool) (n N E : Int) (w : World) :
    Calls Tryd.prog 10 #[.agg #[.slice qa qn qc, .bool dup, .bool true], .agg #[.int .i64 1, .int .i64 n, .slice sa sn sc], .agg #[.slice ta 0 tc, .int .i64 N, .bool is, .int .i64 1]] w fun e w' =>
      e = .returned (.tuple #[.agg #[.slice qa qn qc, .bool dup, .bool true], .bool true]) ∧ Below w.heap.size w w' := by
  go_enter Tryd.func10, Tryd.ntmps10
  go_wp2_with fail
  go_region
  all_goals
    go_wp2_with fail
    refine bodyPost_ret (v := .tuple #[.agg #[.slice qa qn qc, .bool dup, .bool true], .bool true]) (by simp [results, Tryd.results10, go_sem]) rfl ⟨rfl, ?_⟩
    first
      | exact (((((Below.refl _ _).alloc (Nat.le_refl _) _).alloc (by simp) _).alloc (by simp; omega) _).alloc (by simp; omega) _).drew
      | exact ((((Below.refl _ _).alloc (Nat.le_refl _) _).alloc (by simp) _).alloc (by simp; omega) _).alloc (by simp; omega) _
set_option maxRecDepth 100000 in
set_option maxHeartbeats 2000000 in
theorem sp2g (qa ta sa : Option Addr) (qn qc tn tc sn sc : Nat) (dup is gone : Bool) (n N E : Int) (w : World) :
    Calls Tryd.prog 10 #[.agg #[.slice qa qn qc, .bool dup, .bool true], .agg #[.int .i64 2, .int .i64 n, .slice sa sn sc], .agg #[.slice ta 0 tc, .int .i64 N, .bool is, .int .i64 1]] w fun e w' =>
      e = .returned (.tuple #[.agg #[.slice qa qn qc, .bool dup, .bool true], .bool true]) ∧ Below w.heap.size w w' := by
  go_enter Tryd.func10, Tryd.ntmps10
  go_wp2_with fail
  go_region
  all_goals
    go_wp2_with fail
    refine bodyPost_ret (v := .tuple #[.agg #[.slice qa qn qc, .bool dup, .bool true], .bool true]) (by simp [results, Tryd.results10, go_sem]) rfl ⟨rfl, ?_⟩
    first
      | exact (((((Below.refl _ _).alloc (Nat.le_refl _) _).alloc (by simp) _).alloc (by simp; omega) _).alloc (by simp; omega) _).drew
      | exact ((((Below.refl _ _).alloc (Nat.le_refl _) _).alloc (by simp) _).alloc (by simp; omega) _).alloc (by simp; omega) _
set_option maxRecDepth 100000 in
set_option maxHeartbeats 2000000 in
theorem sp2e (qa ta sa : Option Addr) (qn qc tn tc sn sc : Nat) (dup is gone : Bool) (n N E : Int) (w : World) :
    Calls Tryd.prog 10 #[.agg #[.slice qa 0 qc, .bool dup, .bool false], .agg #[.int .i64 2, .int .i64 n, .slice sa sn sc], .agg #[.slice ta 0 tc, .int .i64 N, .bool is, .int .i64 (-1)]] w fun e w' =>
      e = .returned (.tuple #[.agg #[.slice qa 0 qc, .bool dup, .bool false], .bool true]) ∧ Below w.heap.size w w' := by
  go_enter Tryd.func10, Tryd.ntmps10
  go_wp2_with fail
  go_region
  all_goals
    go_wp2_with fail
    refine bodyPost_ret (v := .tuple #[.agg #[.slice qa 0 qc, .bool dup, .bool false], .bool true]) (by simp [results, Tryd.results10, go_sem]) rfl ⟨rfl, ?_⟩
    first
      | exact (((((Below.refl _ _).alloc (Nat.le_refl _) _).alloc (by simp) _).alloc (by simp; omega) _).alloc (by simp; omega) _).drew
      | exact ((((Below.refl _ _).alloc (Nat.le_refl _) _).alloc (by simp) _).alloc (by simp; omega) _).alloc (by simp; omega) _
set_option maxRecDepth 100000 in
set_option maxHeartbeats 2000000 in
theorem sp3e (qa ta sa : Option Addr) (qn qc tn tc sn sc : Nat) (dup is gone : Bool) (n N E : Int) (w : World) :
    Calls Tryd.prog 10 #[.agg #[.slice qa 0 qc, .bool dup, .bool gone], .agg #[.int .i64 3, .int .i64 n, .slice sa sn sc], .agg #[.slice ta 0 tc, .int .i64 N, .bool is, .int .i64 E]] w fun e w' =>
      e = .returned (.tuple #[.agg #[.slice qa 0 qc, .bool dup, .bool gone], .bool true]) ∧ Below w.heap.size w w' := by
  cases gone with
  | false =>
    go_enter Tryd.func10, Tryd.ntmps10
    go_wp2_with fail
    all_goals
      refine bodyPost_ret (v := .tuple #[.agg #[.slice qa 0 qc, .bool dup, .bool false], .bool true]) (by simp [results, Tryd.results10, go_sem]) rfl ⟨rfl, ?_⟩
      first
        | exact (((((Below.refl _ _).alloc (Nat.le_refl _) _).alloc (by simp) _).alloc (by simp; omega) _).alloc (by simp; omega) _).drew
        | exact ((((Below.refl _ _).alloc (Nat.le_refl _) _).alloc (by simp) _).alloc (by simp; omega) _).alloc (by simp; omega) _
  | true =>
    go_enter Tryd.func10, Tryd.ntmps10
    go_wp2_with fail
    all_goals
      refine bodyPost_ret (v := .tuple #[.agg #[.slice qa 0 qc, .bool dup, .bool true], .bool true]) (by simp [results, Tryd.results10, go_sem]) rfl ⟨rfl, ?_⟩
      first
        | exact (((((Below.refl _ _).alloc (Nat.le_refl _) _).alloc (by simp) _).alloc (by simp; omega) _).alloc (by simp; omega) _).drew
        | exact ((((Below.refl _ _).alloc (Nat.le_refl _) _).alloc (by simp) _).alloc (by simp; omega) _).alloc (by simp; omega) _
set_option maxRecDepth 100000 in
set_option maxHeartbeats 2000000 in
theorem sp4f (qa ta sa : Option Addr) (qn qc tn tc sn sc : Nat) (dup is gone : Bool) (n N E : Int) (w : World) (hq : qn ≤ 100000) :
    Calls Tryd.prog 10 #[.agg #[.slice qa qn qc, .bool dup, .bool false], .agg #[.int .i64 4, .int .i64 n, .slice sa sn sc], .agg #[.slice ta tn tc, .int .i64 (qn : Int), .bool is, .int .i64 E]] w fun e w' =>
      e = .returned (.tuple #[.agg #[.slice qa qn qc, .bool dup, .bool false], .bool true]) ∧ Below w.heap.size w w' := by
  go_enter Tryd.func10, Tryd.ntmps10
  go_wp2_with fail
  go_region
  all_goals
    go_wp2_with fail
    refine bodyPost_ret (v := .tuple #[.agg #[.slice qa qn qc, .bool dup, .bool false], .bool true]) (by simp [results, Tryd.results10, go_sem]) rfl ⟨rfl, ?_⟩
    first
      | exact (((((Below.refl _ _).alloc (Nat.le_refl _) _).alloc (by simp) _).alloc (by simp; omega) _).alloc (by simp; omega) _).drew
      | exact ((((Below.refl _ _).alloc (Nat.le_refl _) _).alloc (by simp) _).alloc (by simp; omega) _).alloc (by simp; omega) _
set_option maxRecDepth 100000 in
set_option maxHeartbeats 2000000 in
theorem sp4t (qa ta sa : Option Addr) (qn qc tn tc sn sc : Nat) (dup is gone : Bool) (n N E : Int) (w : World) :
    Calls Tryd.prog 10 #[.agg #[.slice qa qn qc, .bool dup, .bool true], .agg #[.int .i64 4, .int .i64 n, .slice sa sn sc], .agg #[.slice ta tn tc, .int .i64 N, .bool is, .int .i64 E]] w fun e w' =>
      e = .returned (.tuple #[.agg #[.slice qa qn qc, .bool dup, .bool true], .bool true]) ∧ Below w.heap.size w w' := by
  go_enter Tryd.func10, Tryd.ntmps10
  go_wp2_with fail
  go_region
  all_goals
    go_wp2_with fail
    refine bodyPost_ret (v := .tuple #[.agg #[.slice qa qn qc, .bool dup, .bool true], .bool true]) (by simp [results, Tryd.results10, go_sem]) rfl ⟨rfl, ?_⟩
    first
      | exact (((((Below.refl _ _).alloc (Nat.le_refl _) _).alloc (by simp) _).alloc (by simp; omega) _).alloc (by simp; omega) _).drew
      | exact ((((Below.refl _ _).alloc (Nat.le_refl _) _).alloc (by simp) _).alloc (by simp; omega) _).alloc (by simp; omega) _
set_option maxRecDepth 100000 in
set_option maxHeartbeats 2000000 in
theorem sp5t (qa ta sa : Option Addr) (qn qc tn tc sn sc : Nat) (dup is gone : Bool) (n N E : Int) (w : World) :
    Calls Tryd.prog 10 #[.agg #[.slice qa qn qc, .bool dup, .bool true], .agg #[.int .i64 5, .int .i64 n, .slice sa sn sc], .agg #[.slice ta tn tc, .int .i64 N, .bool is, .int .i64 E]] w fun e w' =>
      e = .returned (.tuple #[.agg #[.slice qa qn qc, .bool dup, .bool true], .bool true]) ∧ Below w.heap.size w w' := by
  go_enter Tryd.func10, Tryd.ntmps10
  go_wp2_with fail
  go_region
  all_goals
    go_wp2_with fail
    refine bodyPost_ret (v := .tuple #[.agg #[.slice qa qn qc, .bool dup, .bool true], .bool true]) (by simp [results, Tryd.results10, go_sem]) rfl ⟨rfl, ?_⟩
    first
      | exact (((((Below.refl _ _).alloc (Nat.le_refl _) _).alloc (by simp) _).alloc (by simp; omega) _).alloc (by simp; omega) _).drew
      | exact ((((Below.refl _ _).alloc (Nat.le_refl _) _).alloc (by simp) _).alloc (by simp; omega) _).alloc (by simp; omega) _
set_option maxRecDepth 100000 in
set_option maxHeartbeats 2000000 in
theorem sp5f (qa ta sa : Option Addr) (qn qc tn tc sn sc : Nat) (dup is gone : Bool) (n N E : Int) (w : World) (hq : qn ≤ 100000) :
    Calls Tryd.prog 10 #[.agg #[.slice qa qn qc, .bool dup, .bool false], .agg #[.int .i64 5, .int .i64 n, .slice sa sn sc], .agg #[.slice ta tn tc, .int .i64 N, .bool (decide (qn = 0)), .int .i64 E]] w fun e w' =>
      e = .returned (.tuple #[.agg #[.slice qa qn qc, .bool dup, .bool false], .bool true]) ∧ Below w.heap.size w w' := by
  have hqe : ((qn : Int) == 0) = decide (qn = 0) := by rw [Bool.eq_iff_iff]; simp
  go_enter Tryd.func10, Tryd.ntmps10
  go_wp2_with fail
  go_region
  all_goals
    go_wp2_with fail
    refine bodyPost_ret (v := .tuple #[.agg #[.slice qa qn qc, .bool dup, .bool false], .bool true]) (by simp [results, Tryd.results10, go_sem]) rfl ⟨rfl, ?_⟩
    first
      | exact (((((Below.refl _ _).alloc (Nat.le_refl _) _).alloc (by simp) _).alloc (by simp; omega) _).alloc (by simp; omega) _).drew
      | exact ((((Below.refl _ _).alloc (Nat.le_refl _) _).alloc (by simp) _).alloc (by simp; omega) _).alloc (by simp; omega) _
set_option maxRecDepth 100000 in
set_option maxHeartbeats 2000000 in
theorem sp6 (qa ta sa : Option Addr) (qn qc tn tc sn sc : Nat) (dup is gone : Bool) (n N E : Int) (w : World) :
    Calls Tryd.prog 10 #[.agg #[.slice qa qn qc, .bool dup, .bool gone], .agg #[.int .i64 6, .int .i64 n, .slice sa sn sc], .agg #[.slice ta tn tc, .int .i64 N, .bool is, .int .i64 E]] w fun e w' =>
      e = .returned (.tuple #[.agg #[.slice none 0 0, .bool dup, .bool true], .bool true]) ∧ Below w.heap.size w w' := by
  go_enter Tryd.func10, Tryd.ntmps10
  go_wp2_with fail
  all_goals
    refine bodyPost_ret (v := .tuple #[.agg #[.slice none 0 0, .bool dup, .bool true], .bool true]) (by simp [results, Tryd.results10, go_sem]) rfl ⟨rfl, ?_⟩
    first
      | exact (((((Below.refl _ _).alloc (Nat.le_refl _) _).alloc (by simp) _).alloc (by simp; omega) _).alloc (by simp; omega) _).drew
      | exact ((((Below.refl _ _).alloc (Nat.le_refl _) _).alloc (by simp) _).alloc (by simp; omega) _).alloc (by simp; omega) _
set_option maxRecDepth 100000 in
set_option maxHeartbeats 2000000 in
theorem sp7 (qa ta sa : Option Addr) (qn qc tn tc sn sc : Nat) (dup is gone : Bool) (n N E : Int) (w : World) :
    Calls Tryd.prog 10 #[.agg #[.slice qa qn qc, .bool dup, .bool gone], .agg #[.int .i64 7, .int .i64 n, .slice sa sn sc], .agg #[.slice ta tn tc, .int .i64 N, .bool gone, .int .i64 E]] w fun e w' =>
      e = .returned (.tuple #[.agg #[.slice qa qn qc, .bool dup, .bool gone], .bool true]) ∧ Below w.heap.size w w' := by
  cases gone with
  | false =>
    go_enter Tryd.func10, Tryd.ntmps10
    go_wp2_with fail
    go_region
    all_goals
      go_wp2_with fail
      refine bodyPost_ret (v := .tuple #[.agg #[.slice qa qn qc, .bool dup, .bool false], .bool true]) (by simp [results, Tryd.results10, go_sem]) rfl ⟨rfl, ?_⟩
      first
        | exact (((((Below.refl _ _).alloc (Nat.le_refl _) _).alloc (by simp) _).alloc (by simp; omega) _).alloc (by simp; omega) _).drew
        | exact ((((Below.refl _ _).alloc (Nat.le_refl _) _).alloc (by simp) _).alloc (by simp; omega) _).alloc (by simp; omega) _
  | true =>
    go_enter Tryd.func10, Tryd.ntmps10
    go_wp2_with fail
    go_region
    all_goals
      go_wp2_with fail
      refine bodyPost_ret (v := .tuple #[.agg #[.slice qa qn qc, .bool dup, .bool true], .bool true]) (by simp [results, Tryd.results10, go_sem]) rfl ⟨rfl, ?_⟩
      first
        | exact (((((Below.refl _ _).alloc (Nat.le_refl _) _).alloc (by simp) _).alloc (by simp; omega) _).alloc (by simp; omega) _).drew
        | exact ((((Below.refl _ _).alloc (Nat.le_refl _) _).alloc (by simp) _).alloc (by simp; omega) _).alloc (by simp; omega) _
end Go.Proofs.YtepjailijekepaaDoor
