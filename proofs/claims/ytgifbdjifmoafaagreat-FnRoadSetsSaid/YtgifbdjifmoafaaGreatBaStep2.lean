/- Walks of impl's step at operations on one sparse array (printed by gen_ba_step.py). -/
import Derived.Test.YtgifbdjifmoafaaGreatBaStep
namespace Go.Proofs.YtgifbdjifmoafaaGreat
set_option linter.unusedVariables false
open Go.RowKit Bam

theorem own_base {w : World} {B B' : Nat} {e : TypeId} {size : Nat} {v : Value} {n : Nat} {xs : List Value} (h : w.ownsRow B e size v n xs) (hB : B' ≤ B) : w.ownsRow B' e size v n xs := by
  refine ⟨h.1, ?_⟩
  rcases h.2 with h2 | ⟨g, cap, cur, hv, hg, r⟩
  · exact .inl h2
  · exact .inr ⟨g, cap, cur, hv, Nat.le_trans hB hg, r⟩
theorem meth_sparseBitArray_SetBit (x : Value) (w : World) : (method 267 99 x "SetBit").run Tryz.prog w = .ok (122, x) w := by kernel_rfl
theorem meth_sparseBitArray_ClearBit (x : Value) (w : World) : (method 267 99 x "ClearBit").run Tryz.prog w = .ok (112, x) w := by kernel_rfl
theorem meth_sparseBitArray_GetBit (x : Value) (w : World) : (method 267 99 x "GetBit").run Tryz.prog w = .ok (115, x) w := by kernel_rfl
theorem meth_sparseBitArray_Reset (x : Value) (w : World) : (method 267 99 x "Reset").run Tryz.prog w = .ok (121, x) w := by kernel_rfl
theorem meth_sparseBitArray_Capacity (x : Value) (w : World) : (method 267 99 x "Capacity").run Tryz.prog w = .ok (109, x) w := by kernel_rfl
theorem meth_sparseBitArray_Count (x : Value) (w : World) : (method 267 99 x "Count").run Tryz.prog w = .ok (113, x) w := by kernel_rfl
theorem meth_sparseBitArray_ToNums (x : Value) (w : World) : (method 267 99 x "ToNums").run Tryz.prog w = .ok (123, x) w := by kernel_rfl
theorem meth_sparseBitArray_IsEmpty (x : Value) (w : World) : (method 267 99 x "IsEmpty").run Tryz.prog w = .ok (118, x) w := by kernel_rfl

set_option maxRecDepth 100000 in
set_option maxHeartbeats 1000000 in
theorem step3_sp (a : Nat) (s : Option Addr) (c : Nat) (es : List Ent) (i p : Nat) (F : List Nat) (ps : Ps) (by_ : Int) (k : Nat) (most : Int) (all : Bool) (w : World) (h : Sta w a s c es) (hn : es.length ≤ 1000) (hi : es[i]? = some ⟨p, F, .sp ps⟩) (hok : Ok ps) (hl : ps.length ≤ 1000) (hk : k < 18446744073709551616) :
    Calls Tryz.prog 22 #[.pointer (some ⟨a, 0, none⟩), stepV 3 (i : Int) by_ k most all] w fun e w' => e = .returned (ansV true 0 (.slice none 0 0)) ∧ ∃ F', Sta w' a s c (es.set i ⟨p, F', .sp (setB ps k)⟩) ∧ Fr (foot a s c es) (foot a s c (es.set i ⟨p, F', .sp (setB ps k)⟩)) w w' := by
  unfold stepV ansV
  have hmf : ∀ (fn : Fn) (first cap : Array Value) (w : World), (Instr.makeFunc fn first cap).run Tryz.prog w = .ok (.func fn first cap) w := fun _ _ _ _ => rfl
  have hme := meth_sparseBitArray_SetBit (.pointer (some ⟨p, 0, none⟩))
  have H := Lib.hid h
  have HI := Lib.hid hi
  clear h hi
  go_enter_defers Tryz.func22, Tryz.ntmps22
  go_wp2_with fail
  have hbg := began w #[.int .i64 3, .int .i64 (i : Int), .int .i64 by_, .int .u64 (k : Int), .int .i64 most, .bool all]
  obtain ⟨w0, hw0⟩ : ∃ w0, (w.alloc (Obj.cells #[.int .i64 3, .int .i64 (i : Int), .int .i64 by_, .int .u64 (k : Int), .int .i64 most, .bool all] 33)).alloc (.cells #[.bool false, .int .u64 0, .slice none 0 0, .bool false] 44) = w0 := ⟨_, rfl⟩
  rw [hw0] at hbg ⊢
  obtain ⟨q, hq⟩ : ∃ q, w.heap.size + 1 = q := ⟨_, rfl⟩
  obtain ⟨b, hb⟩ : ∃ b, w.heap.size = b := ⟨_, rfl⟩
  rw [hq] at hbg ⊢
  rw [hb] at hbg ⊢
  have HBG := Lib.hid hbg
  have hst0 := H.out.below hbg.below
  have HST0 := Lib.hid hst0
  have x0 : w0.cell? ⟨b, 0, none⟩ = some (.int .i64 3) := hbg.box.cell 0 rfl
  have x3 : w0.cell? ⟨b, 3, none⟩ = some (.int .u64 (k : Int)) := hbg.box.cell 3 rfl
  have hat := arat_any a s c es i _ w0 hst0 HI.out hn
  have HAT := Lib.hid hat
  have hsp : SpAt w0 p F ps := hst0.at_ _ (List.mem_of_getElem? HI.out)
  have hcc := setbit_any p F ps k w0 hsp hok hl hk
  have HC := Lib.hid hcc
  clear hw0 hq hb hbg hst0 hat hsp hcc
  refine HAT.out.mono ?_
  rintro e w' ⟨rfl, rfl⟩
  go_wp2_with fail
  refine HC.out.mono ?_
  rintro e w1 ⟨rfl, F', hsF, hfF⟩
  obtain ⟨hs1, hf1⟩ := HST0.out.turn (x' := .sp (setB ps k)) HI.out hfF hsF rfl
  clear hfF hsF
  have hlt := H.out.lt
  obtain ⟨hbx, hA1⟩ := HBG.out.keep hf1 hlt
  have hqn : q ∉ foot a s c (es.set i ⟨p, F', .sp (setB ps k)⟩) := fun e => by
    have h1 := HBG.out.hq
    have h2 := HBG.out.size
    rcases hf1.next q e with e | e
    · have := hlt q e; omega
    · omega
  have k0 : w1.cell? ⟨q, 0, none⟩ = some (.bool false) := hA1.cell 0 rfl
  have k1 : w1.cell? ⟨q, 1, none⟩ = some (.int .u64 ((0 : Nat) : Int)) := hA1.cell 1 rfl
  have k2 : w1.cell? ⟨q, 2, none⟩ = some (.slice none 0 0) := hA1.cell 2 rfl
  have k3 : w1.cell? ⟨q, 3, none⟩ = some (.bool false) := hA1.cell 3 rfl
  have f0 := hA1.free 0
  have f1 := hA1.free 1
  have f2 := hA1.free 2
  have f3 := hA1.free 3
  have HA1 := Lib.hid hA1
  have HS1 := Lib.hid hs1
  have HF1 := Lib.hid hf1
  have HQN := Lib.hid hqn
  clear hs1 hf1 hA1 hlt hbx hqn
  go_wp2_with fail
  have hE : Blk _ q 44 #[.bool true, .int .u64 ((0 : Nat) : Int), .slice none 0 0, .bool false] := (HA1.out.set 0 (.bool true))
  refine step_end (q := q) (by rfl) (ans_again hE) ⟨rfl, F', HS1.out.done ((fr_store_other w1 q 0 _).trans (fr_again _ q _ _ _ _)) HQN.out, step_fr HBG.out HF1.out H.out.lt ((fr_store_other w1 q 0 _).trans (fr_again _ q _ _ _ _))⟩

set_option maxRecDepth 100000 in
set_option maxHeartbeats 1000000 in
theorem step4_sp (a : Nat) (s : Option Addr) (c : Nat) (es : List Ent) (i p : Nat) (F : List Nat) (ps : Ps) (by_ : Int) (k : Nat) (most : Int) (all : Bool) (w : World) (h : Sta w a s c es) (hn : es.length ≤ 1000) (hi : es[i]? = some ⟨p, F, .sp ps⟩) (hok : Ok ps) (hl : ps.length ≤ 1000) (hk : k < 18446744073709551616) :
    Calls Tryz.prog 22 #[.pointer (some ⟨a, 0, none⟩), stepV 4 (i : Int) by_ k most all] w fun e w' => e = .returned (ansV true 0 (.slice none 0 0)) ∧ ∃ F', Sta w' a s c (es.set i ⟨p, F', .sp (clearB ps k)⟩) ∧ Fr (foot a s c es) (foot a s c (es.set i ⟨p, F', .sp (clearB ps k)⟩)) w w' := by
  unfold stepV ansV
  have hmf : ∀ (fn : Fn) (first cap : Array Value) (w : World), (Instr.makeFunc fn first cap).run Tryz.prog w = .ok (.func fn first cap) w := fun _ _ _ _ => rfl
  have hme := meth_sparseBitArray_ClearBit (.pointer (some ⟨p, 0, none⟩))
  have H := Lib.hid h
  have HI := Lib.hid hi
  clear h hi
  go_enter_defers Tryz.func22, Tryz.ntmps22
  go_wp2_with fail
  have hbg := began w #[.int .i64 4, .int .i64 (i : Int), .int .i64 by_, .int .u64 (k : Int), .int .i64 most, .bool all]
  obtain ⟨w0, hw0⟩ : ∃ w0, (w.alloc (Obj.cells #[.int .i64 4, .int .i64 (i : Int), .int .i64 by_, .int .u64 (k : Int), .int .i64 most, .bool all] 33)).alloc (.cells #[.bool false, .int .u64 0, .slice none 0 0, .bool false] 44) = w0 := ⟨_, rfl⟩
  rw [hw0] at hbg ⊢
  obtain ⟨q, hq⟩ : ∃ q, w.heap.size + 1 = q := ⟨_, rfl⟩
  obtain ⟨b, hb⟩ : ∃ b, w.heap.size = b := ⟨_, rfl⟩
  rw [hq] at hbg ⊢
  rw [hb] at hbg ⊢
  have HBG := Lib.hid hbg
  have hst0 := H.out.below hbg.below
  have HST0 := Lib.hid hst0
  have x0 : w0.cell? ⟨b, 0, none⟩ = some (.int .i64 4) := hbg.box.cell 0 rfl
  have x3 : w0.cell? ⟨b, 3, none⟩ = some (.int .u64 (k : Int)) := hbg.box.cell 3 rfl
  have hat := arat_any a s c es i _ w0 hst0 HI.out hn
  have HAT := Lib.hid hat
  have hsp : SpAt w0 p F ps := hst0.at_ _ (List.mem_of_getElem? HI.out)
  have hcc := clearbit_any p F ps k w0 hsp hok hl hk
  have HC := Lib.hid hcc
  clear hw0 hq hb hbg hst0 hat hsp hcc
  refine HAT.out.mono ?_
  rintro e w' ⟨rfl, rfl⟩
  go_wp2_with fail
  refine HC.out.mono ?_
  rintro e w1 ⟨rfl, F', hsF, hfF⟩
  obtain ⟨hs1, hf1⟩ := HST0.out.turn (x' := .sp (clearB ps k)) HI.out hfF hsF rfl
  clear hfF hsF
  have hlt := H.out.lt
  obtain ⟨hbx, hA1⟩ := HBG.out.keep hf1 hlt
  have hqn : q ∉ foot a s c (es.set i ⟨p, F', .sp (clearB ps k)⟩) := fun e => by
    have h1 := HBG.out.hq
    have h2 := HBG.out.size
    rcases hf1.next q e with e | e
    · have := hlt q e; omega
    · omega
  have k0 : w1.cell? ⟨q, 0, none⟩ = some (.bool false) := hA1.cell 0 rfl
  have k1 : w1.cell? ⟨q, 1, none⟩ = some (.int .u64 ((0 : Nat) : Int)) := hA1.cell 1 rfl
  have k2 : w1.cell? ⟨q, 2, none⟩ = some (.slice none 0 0) := hA1.cell 2 rfl
  have k3 : w1.cell? ⟨q, 3, none⟩ = some (.bool false) := hA1.cell 3 rfl
  have f0 := hA1.free 0
  have f1 := hA1.free 1
  have f2 := hA1.free 2
  have f3 := hA1.free 3
  have HA1 := Lib.hid hA1
  have HS1 := Lib.hid hs1
  have HF1 := Lib.hid hf1
  have HQN := Lib.hid hqn
  clear hs1 hf1 hA1 hlt hbx hqn
  go_wp2_with fail
  have hE : Blk _ q 44 #[.bool true, .int .u64 ((0 : Nat) : Int), .slice none 0 0, .bool false] := (HA1.out.set 0 (.bool true))
  refine step_end (q := q) (by rfl) (ans_again hE) ⟨rfl, F', HS1.out.done ((fr_store_other w1 q 0 _).trans (fr_again _ q _ _ _ _)) HQN.out, step_fr HBG.out HF1.out H.out.lt ((fr_store_other w1 q 0 _).trans (fr_again _ q _ _ _ _))⟩

set_option maxRecDepth 100000 in
set_option maxHeartbeats 1000000 in
theorem step6_sp (a : Nat) (s : Option Addr) (c : Nat) (es : List Ent) (i p : Nat) (F : List Nat) (ps : Ps) (by_ : Int) (k : Nat) (most : Int) (all : Bool) (w : World) (h : Sta w a s c es) (hn : es.length ≤ 1000) (hi : es[i]? = some ⟨p, F, .sp ps⟩) (hok : Ok ps) (hl : ps.length ≤ 1000) :
    Calls Tryz.prog 22 #[.pointer (some ⟨a, 0, none⟩), stepV 6 (i : Int) by_ k most all] w fun e w' => e = .returned (ansV false 0 (.slice none 0 0)) ∧ ∃ F', Sta w' a s c (es.set i ⟨p, F', .sp []⟩) ∧ Fr (foot a s c es) (foot a s c (es.set i ⟨p, F', .sp []⟩)) w w' := by
  unfold stepV ansV
  have hmf : ∀ (fn : Fn) (first cap : Array Value) (w : World), (Instr.makeFunc fn first cap).run Tryz.prog w = .ok (.func fn first cap) w := fun _ _ _ _ => rfl
  have hme := meth_sparseBitArray_Reset (.pointer (some ⟨p, 0, none⟩))
  have H := Lib.hid h
  have HI := Lib.hid hi
  clear h hi
  go_enter_defers Tryz.func22, Tryz.ntmps22
  go_wp2_with fail
  have hbg := began w #[.int .i64 6, .int .i64 (i : Int), .int .i64 by_, .int .u64 (k : Int), .int .i64 most, .bool all]
  obtain ⟨w0, hw0⟩ : ∃ w0, (w.alloc (Obj.cells #[.int .i64 6, .int .i64 (i : Int), .int .i64 by_, .int .u64 (k : Int), .int .i64 most, .bool all] 33)).alloc (.cells #[.bool false, .int .u64 0, .slice none 0 0, .bool false] 44) = w0 := ⟨_, rfl⟩
  rw [hw0] at hbg ⊢
  obtain ⟨q, hq⟩ : ∃ q, w.heap.size + 1 = q := ⟨_, rfl⟩
  obtain ⟨b, hb⟩ : ∃ b, w.heap.size = b := ⟨_, rfl⟩
  rw [hq] at hbg ⊢
  rw [hb] at hbg ⊢
  have HBG := Lib.hid hbg
  have hst0 := H.out.below hbg.below
  have HST0 := Lib.hid hst0
  have x0 : w0.cell? ⟨b, 0, none⟩ = some (.int .i64 6) := hbg.box.cell 0 rfl
  have x3 : w0.cell? ⟨b, 3, none⟩ = some (.int .u64 (k : Int)) := hbg.box.cell 3 rfl
  have hat := arat_any a s c es i _ w0 hst0 HI.out hn
  have HAT := Lib.hid hat
  have hsp : SpAt w0 p F ps := hst0.at_ _ (List.mem_of_getElem? HI.out)
  have hcc := reset_any p F ps w0 hsp hl
  have HC := Lib.hid hcc
  clear hw0 hq hb hbg hst0 hat hsp hcc
  refine HAT.out.mono ?_
  rintro e w' ⟨rfl, rfl⟩
  go_wp2_with fail
  refine HC.out.mono ?_
  rintro e w1 ⟨rfl, F', hsF, hfF⟩
  obtain ⟨hs1, hf1⟩ := HST0.out.turn (x' := .sp []) HI.out hfF hsF rfl
  clear hfF hsF
  have hlt := H.out.lt
  obtain ⟨hbx, hA1⟩ := HBG.out.keep hf1 hlt
  have hqn : q ∉ foot a s c (es.set i ⟨p, F', .sp []⟩) := fun e => by
    have h1 := HBG.out.hq
    have h2 := HBG.out.size
    rcases hf1.next q e with e | e
    · have := hlt q e; omega
    · omega
  have k0 : w1.cell? ⟨q, 0, none⟩ = some (.bool false) := hA1.cell 0 rfl
  have k1 : w1.cell? ⟨q, 1, none⟩ = some (.int .u64 ((0 : Nat) : Int)) := hA1.cell 1 rfl
  have k2 : w1.cell? ⟨q, 2, none⟩ = some (.slice none 0 0) := hA1.cell 2 rfl
  have k3 : w1.cell? ⟨q, 3, none⟩ = some (.bool false) := hA1.cell 3 rfl
  have f0 := hA1.free 0
  have f1 := hA1.free 1
  have f2 := hA1.free 2
  have f3 := hA1.free 3
  have HA1 := Lib.hid hA1
  have HS1 := Lib.hid hs1
  have HF1 := Lib.hid hf1
  have HQN := Lib.hid hqn
  clear hs1 hf1 hA1 hlt hbx hqn
  go_wp2_with fail
  have hE : Blk _ q 44 #[.bool false, .int .u64 ((0 : Nat) : Int), .slice none 0 0, .bool false] := HA1.out
  refine step_end (q := q) (by rfl) (ans_again hE) ⟨rfl, F', HS1.out.done (fr_again _ q _ _ _ _) HQN.out, step_fr HBG.out HF1.out H.out.lt (fr_again _ q _ _ _ _)⟩

set_option maxRecDepth 100000 in
set_option maxHeartbeats 1000000 in
theorem step9_sp (a : Nat) (s : Option Addr) (c : Nat) (es : List Ent) (i p : Nat) (F : List Nat) (ps : Ps) (by_ : Int) (k : Nat) (most : Int) (all : Bool) (w : World) (h : Sta w a s c es) (hn : es.length ≤ 1000) (hi : es[i]? = some ⟨p, F, .sp ps⟩) (hok : Ok ps) (hl : ps.length ≤ 1000) (hb57 : ∀ q ∈ ps, q.1 < 144115188075855872) :
    Calls Tryz.prog 22 #[.pointer (some ⟨a, 0, none⟩), stepV 9 (i : Int) by_ k most all] w fun e w' => e = .returned (ansV false (capP ps) (.slice none 0 0)) ∧ Sta w' a s c es ∧ Fr (foot a s c es) (foot a s c es) w w' := by
  unfold stepV ansV
  have hmf : ∀ (fn : Fn) (first cap : Array Value) (w : World), (Instr.makeFunc fn first cap).run Tryz.prog w = .ok (.func fn first cap) w := fun _ _ _ _ => rfl
  have hme := meth_sparseBitArray_Capacity (.pointer (some ⟨p, 0, none⟩))
  have H := Lib.hid h
  have HI := Lib.hid hi
  clear h hi
  go_enter_defers Tryz.func22, Tryz.ntmps22
  go_wp2_with fail
  have hbg := began w #[.int .i64 9, .int .i64 (i : Int), .int .i64 by_, .int .u64 (k : Int), .int .i64 most, .bool all]
  obtain ⟨w0, hw0⟩ : ∃ w0, (w.alloc (Obj.cells #[.int .i64 9, .int .i64 (i : Int), .int .i64 by_, .int .u64 (k : Int), .int .i64 most, .bool all] 33)).alloc (.cells #[.bool false, .int .u64 0, .slice none 0 0, .bool false] 44) = w0 := ⟨_, rfl⟩
  rw [hw0] at hbg ⊢
  obtain ⟨q, hq⟩ : ∃ q, w.heap.size + 1 = q := ⟨_, rfl⟩
  obtain ⟨b, hb⟩ : ∃ b, w.heap.size = b := ⟨_, rfl⟩
  rw [hq] at hbg ⊢
  rw [hb] at hbg ⊢
  have HBG := Lib.hid hbg
  have hst0 := H.out.below hbg.below
  have HST0 := Lib.hid hst0
  have x0 : w0.cell? ⟨b, 0, none⟩ = some (.int .i64 9) := hbg.box.cell 0 rfl
  have x3 : w0.cell? ⟨b, 3, none⟩ = some (.int .u64 (k : Int)) := hbg.box.cell 3 rfl
  have hat := arat_any a s c es i _ w0 hst0 HI.out hn
  have HAT := Lib.hid hat
  have hsp : SpAt w0 p F ps := hst0.at_ _ (List.mem_of_getElem? HI.out)
  have hcc := capacity_any p F ps w0 hsp hl hb57
  have HC := Lib.hid hcc
  clear hw0 hq hb hbg hst0 hat hsp hcc
  refine HAT.out.mono ?_
  rintro e w' ⟨rfl, rfl⟩
  go_wp2_with fail
  refine HC.out.mono ?_
  rintro e w1 ⟨rfl, hdr⟩
  obtain ⟨nq, hw1⟩ := hdr
  have hbw : Below w0.heap.size w0 w1 := hw1 ▸ below_drewN (Below.refl _ _) nq
  clear hw1
  have hs1 := HST0.out.below hbw
  have hf1 : Fr (foot a s c es) (foot a s c es) w0 w1 := Fr.of_below _ hbw
  have hlt := H.out.lt
  obtain ⟨hbx, hA1⟩ := HBG.out.keep hf1 hlt
  have hqn : q ∉ foot a s c es := fun e => by
    have h1 := HBG.out.hq
    have h2 := HBG.out.size
    rcases hf1.next q e with e | e
    · have := hlt q e; omega
    · omega
  have k0 : w1.cell? ⟨q, 0, none⟩ = some (.bool false) := hA1.cell 0 rfl
  have k1 : w1.cell? ⟨q, 1, none⟩ = some (.int .u64 ((0 : Nat) : Int)) := hA1.cell 1 rfl
  have k2 : w1.cell? ⟨q, 2, none⟩ = some (.slice none 0 0) := hA1.cell 2 rfl
  have k3 : w1.cell? ⟨q, 3, none⟩ = some (.bool false) := hA1.cell 3 rfl
  have f0 := hA1.free 0
  have f1 := hA1.free 1
  have f2 := hA1.free 2
  have f3 := hA1.free 3
  have HA1 := Lib.hid hA1
  have HS1 := Lib.hid hs1
  have HF1 := Lib.hid hf1
  have HQN := Lib.hid hqn
  clear hs1 hf1 hA1 hlt hbx hqn
  go_wp2_with fail
  have hE : Blk _ q 44 #[.bool false, .int .u64 ((capP ps : Nat) : Int), .slice none 0 0, .bool false] := (HA1.out.set 1 (.int .u64 ((capP ps : Nat) : Int)))
  refine step_end (q := q) (by rfl) (ans_again hE) ⟨rfl, HS1.out.done ((fr_store_other w1 q 1 _).trans (fr_again _ q _ _ _ _)) HQN.out, step_fr HBG.out HF1.out H.out.lt ((fr_store_other w1 q 1 _).trans (fr_again _ q _ _ _ _))⟩

set_option maxRecDepth 100000 in
set_option maxHeartbeats 1000000 in
theorem step10_sp (a : Nat) (s : Option Addr) (c : Nat) (es : List Ent) (i p : Nat) (F : List Nat) (ps : Ps) (by_ : Int) (k : Nat) (most : Int) (all : Bool) (w : World) (h : Sta w a s c es) (hn : es.length ≤ 1000) (hi : es[i]? = some ⟨p, F, .sp ps⟩) (hok : Ok ps) (hl : ps.length ≤ 1000) (N : Nat) (hN : (nums ps).length = N) (hNb : N ≤ 1000000) :
    Calls Tryz.prog 22 #[.pointer (some ⟨a, 0, none⟩), stepV 10 (i : Int) by_ k most all] w fun e w' => e = .returned (ansV false N (.slice none 0 0)) ∧ Sta w' a s c es ∧ Fr (foot a s c es) (foot a s c es) w w' := by
  unfold stepV ansV
  have hmf : ∀ (fn : Fn) (first cap : Array Value) (w : World), (Instr.makeFunc fn first cap).run Tryz.prog w = .ok (.func fn first cap) w := fun _ _ _ _ => rfl
  have hme := meth_sparseBitArray_Count (.pointer (some ⟨p, 0, none⟩))
  have H := Lib.hid h
  have HI := Lib.hid hi
  clear h hi
  go_enter_defers Tryz.func22, Tryz.ntmps22
  go_wp2_with fail
  have hbg := began w #[.int .i64 10, .int .i64 (i : Int), .int .i64 by_, .int .u64 (k : Int), .int .i64 most, .bool all]
  obtain ⟨w0, hw0⟩ : ∃ w0, (w.alloc (Obj.cells #[.int .i64 10, .int .i64 (i : Int), .int .i64 by_, .int .u64 (k : Int), .int .i64 most, .bool all] 33)).alloc (.cells #[.bool false, .int .u64 0, .slice none 0 0, .bool false] 44) = w0 := ⟨_, rfl⟩
  rw [hw0] at hbg ⊢
  obtain ⟨q, hq⟩ : ∃ q, w.heap.size + 1 = q := ⟨_, rfl⟩
  obtain ⟨b, hb⟩ : ∃ b, w.heap.size = b := ⟨_, rfl⟩
  rw [hq] at hbg ⊢
  rw [hb] at hbg ⊢
  have HBG := Lib.hid hbg
  have hst0 := H.out.below hbg.below
  have HST0 := Lib.hid hst0
  have x0 : w0.cell? ⟨b, 0, none⟩ = some (.int .i64 10) := hbg.box.cell 0 rfl
  have x3 : w0.cell? ⟨b, 3, none⟩ = some (.int .u64 (k : Int)) := hbg.box.cell 3 rfl
  have hat := arat_any a s c es i _ w0 hst0 HI.out hn
  have HAT := Lib.hid hat
  have hsp : SpAt w0 p F ps := hst0.at_ _ (List.mem_of_getElem? HI.out)
  have hcc := (show Calls Tryz.prog 113 #[.pointer (some ⟨p, 0, none⟩)] w0 (fun e w' => e = .returned (.int .i64 (N : Int)) ∧ w0 = w') from hN ▸ count_any p F ps w0 hsp hok hl)
  have HC := Lib.hid hcc
  clear hw0 hq hb hbg hst0 hat hsp hcc
  refine HAT.out.mono ?_
  rintro e w' ⟨rfl, rfl⟩
  go_wp2_with fail
  refine HC.out.mono ?_
  rintro e w1 ⟨rfl, hsame⟩
  have hbw : Below w0.heap.size w0 w1 := hsame ▸ Below.refl _ _
  clear hsame
  have hs1 := HST0.out.below hbw
  have hf1 : Fr (foot a s c es) (foot a s c es) w0 w1 := Fr.of_below _ hbw
  have hlt := H.out.lt
  obtain ⟨hbx, hA1⟩ := HBG.out.keep hf1 hlt
  have hqn : q ∉ foot a s c es := fun e => by
    have h1 := HBG.out.hq
    have h2 := HBG.out.size
    rcases hf1.next q e with e | e
    · have := hlt q e; omega
    · omega
  have k0 : w1.cell? ⟨q, 0, none⟩ = some (.bool false) := hA1.cell 0 rfl
  have k1 : w1.cell? ⟨q, 1, none⟩ = some (.int .u64 ((0 : Nat) : Int)) := hA1.cell 1 rfl
  have k2 : w1.cell? ⟨q, 2, none⟩ = some (.slice none 0 0) := hA1.cell 2 rfl
  have k3 : w1.cell? ⟨q, 3, none⟩ = some (.bool false) := hA1.cell 3 rfl
  have f0 := hA1.free 0
  have f1 := hA1.free 1
  have f2 := hA1.free 2
  have f3 := hA1.free 3
  have HA1 := Lib.hid hA1
  have HS1 := Lib.hid hs1
  have HF1 := Lib.hid hf1
  have HQN := Lib.hid hqn
  clear hs1 hf1 hA1 hlt hbx hqn
  go_wp2_with fail
  have hE : Blk _ q 44 #[.bool false, .int .u64 ((N : Nat) : Int), .slice none 0 0, .bool false] := (HA1.out.set 1 (.int .u64 (N : Int)))
  refine step_end (q := q) (by rfl) (ans_again hE) ⟨rfl, HS1.out.done ((fr_store_other w1 q 1 _).trans (fr_again _ q _ _ _ _)) HQN.out, step_fr HBG.out HF1.out H.out.lt ((fr_store_other w1 q 1 _).trans (fr_again _ q _ _ _ _))⟩

set_option maxRecDepth 100000 in
set_option maxHeartbeats 1000000 in
theorem step15_sp (a : Nat) (s : Option Addr) (c : Nat) (es : List Ent) (i p : Nat) (F : List Nat) (ps : Ps) (by_ : Int) (k : Nat) (most : Int) (all : Bool) (w : World) (h : Sta w a s c es) (hn : es.length ≤ 1000) (hi : es[i]? = some ⟨p, F, .sp ps⟩) (hok : Ok ps) (hl : ps.length ≤ 1000) (y : Bool) (hy : decide (ps.length = 0) = y) :
    Calls Tryz.prog 22 #[.pointer (some ⟨a, 0, none⟩), stepV 15 (i : Int) by_ k most all] w fun e w' => e = .returned (ansV y 0 (.slice none 0 0)) ∧ Sta w' a s c es ∧ Fr (foot a s c es) (foot a s c es) w w' := by
  unfold stepV ansV
  have hmf : ∀ (fn : Fn) (first cap : Array Value) (w : World), (Instr.makeFunc fn first cap).run Tryz.prog w = .ok (.func fn first cap) w := fun _ _ _ _ => rfl
  have hme := meth_sparseBitArray_IsEmpty (.pointer (some ⟨p, 0, none⟩))
  have H := Lib.hid h
  have HI := Lib.hid hi
  clear h hi
  go_enter_defers Tryz.func22, Tryz.ntmps22
  go_wp2_with fail
  have hbg := began w #[.int .i64 15, .int .i64 (i : Int), .int .i64 by_, .int .u64 (k : Int), .int .i64 most, .bool all]
  obtain ⟨w0, hw0⟩ : ∃ w0, (w.alloc (Obj.cells #[.int .i64 15, .int .i64 (i : Int), .int .i64 by_, .int .u64 (k : Int), .int .i64 most, .bool all] 33)).alloc (.cells #[.bool false, .int .u64 0, .slice none 0 0, .bool false] 44) = w0 := ⟨_, rfl⟩
  rw [hw0] at hbg ⊢
  obtain ⟨q, hq⟩ : ∃ q, w.heap.size + 1 = q := ⟨_, rfl⟩
  obtain ⟨b, hb⟩ : ∃ b, w.heap.size = b := ⟨_, rfl⟩
  rw [hq] at hbg ⊢
  rw [hb] at hbg ⊢
  have HBG := Lib.hid hbg
  have hst0 := H.out.below hbg.below
  have HST0 := Lib.hid hst0
  have x0 : w0.cell? ⟨b, 0, none⟩ = some (.int .i64 15) := hbg.box.cell 0 rfl
  have x3 : w0.cell? ⟨b, 3, none⟩ = some (.int .u64 (k : Int)) := hbg.box.cell 3 rfl
  have hat := arat_any a s c es i _ w0 hst0 HI.out hn
  have HAT := Lib.hid hat
  have hsp : SpAt w0 p F ps := hst0.at_ _ (List.mem_of_getElem? HI.out)
  have hcc := (show Calls Tryz.prog 118 #[.pointer (some ⟨p, 0, none⟩)] w0 (fun e w' => e = .returned (.bool y) ∧ w0 = w') from hy ▸ isempty_any p F ps w0 hsp hl)
  have HC := Lib.hid hcc
  clear hw0 hq hb hbg hst0 hat hsp hcc
  refine HAT.out.mono ?_
  rintro e w' ⟨rfl, rfl⟩
  go_wp2_with fail
  refine HC.out.mono ?_
  rintro e w1 ⟨rfl, hsame⟩
  have hbw : Below w0.heap.size w0 w1 := hsame ▸ Below.refl _ _
  clear hsame
  have hs1 := HST0.out.below hbw
  have hf1 : Fr (foot a s c es) (foot a s c es) w0 w1 := Fr.of_below _ hbw
  have hlt := H.out.lt
  obtain ⟨hbx, hA1⟩ := HBG.out.keep hf1 hlt
  have hqn : q ∉ foot a s c es := fun e => by
    have h1 := HBG.out.hq
    have h2 := HBG.out.size
    rcases hf1.next q e with e | e
    · have := hlt q e; omega
    · omega
  have k0 : w1.cell? ⟨q, 0, none⟩ = some (.bool false) := hA1.cell 0 rfl
  have k1 : w1.cell? ⟨q, 1, none⟩ = some (.int .u64 ((0 : Nat) : Int)) := hA1.cell 1 rfl
  have k2 : w1.cell? ⟨q, 2, none⟩ = some (.slice none 0 0) := hA1.cell 2 rfl
  have k3 : w1.cell? ⟨q, 3, none⟩ = some (.bool false) := hA1.cell 3 rfl
  have f0 := hA1.free 0
  have f1 := hA1.free 1
  have f2 := hA1.free 2
  have f3 := hA1.free 3
  have HA1 := Lib.hid hA1
  have HS1 := Lib.hid hs1
  have HF1 := Lib.hid hf1
  have HQN := Lib.hid hqn
  clear hs1 hf1 hA1 hlt hbx hqn
  go_wp2_with fail
  have hE : Blk _ q 44 #[.bool y, .int .u64 ((0 : Nat) : Int), .slice none 0 0, .bool false] := (HA1.out.set 0 (.bool y))
  refine step_end (q := q) (by rfl) (ans_again hE) ⟨rfl, HS1.out.done ((fr_store_other w1 q 0 _).trans (fr_again _ q _ _ _ _)) HQN.out, step_fr HBG.out HF1.out H.out.lt ((fr_store_other w1 q 0 _).trans (fr_again _ q _ _ _ _))⟩

set_option maxRecDepth 100000 in
set_option maxHeartbeats 1000000 in
theorem step5y_sp (a : Nat) (s : Option Addr) (c : Nat) (es : List Ent) (i p : Nat) (F : List Nat) (ps : Ps) (by_ : Int) (k : Nat) (most : Int) (all : Bool) (w : World) (h : Sta w a s c es) (hn : es.length ≤ 1000) (hi : es[i]? = some ⟨p, F, .sp ps⟩) (hok : Ok ps) (hl : ps.length ≤ 1000) (hk : k < 18446744073709551616) (hy : sHas (nums ps) k = true) :
    Calls Tryz.prog 22 #[.pointer (some ⟨a, 0, none⟩), stepV 5 (i : Int) by_ k most all] w fun e w' => e = .returned (ansV true 1 (.slice none 0 0)) ∧ Sta w' a s c es ∧ Fr (foot a s c es) (foot a s c es) w w' := by
  unfold stepV ansV
  have hmf : ∀ (fn : Fn) (first cap : Array Value) (w : World), (Instr.makeFunc fn first cap).run Tryz.prog w = .ok (.func fn first cap) w := fun _ _ _ _ => rfl
  have hme := meth_sparseBitArray_GetBit (.pointer (some ⟨p, 0, none⟩))
  have H := Lib.hid h
  have HI := Lib.hid hi
  have HY := Lib.hid hy
  clear hy
  clear h hi
  go_enter_defers Tryz.func22, Tryz.ntmps22
  go_wp2_with fail
  have hbg := began w #[.int .i64 5, .int .i64 (i : Int), .int .i64 by_, .int .u64 (k : Int), .int .i64 most, .bool all]
  obtain ⟨w0, hw0⟩ : ∃ w0, (w.alloc (Obj.cells #[.int .i64 5, .int .i64 (i : Int), .int .i64 by_, .int .u64 (k : Int), .int .i64 most, .bool all] 33)).alloc (.cells #[.bool false, .int .u64 0, .slice none 0 0, .bool false] 44) = w0 := ⟨_, rfl⟩
  rw [hw0] at hbg ⊢
  obtain ⟨q, hq⟩ : ∃ q, w.heap.size + 1 = q := ⟨_, rfl⟩
  obtain ⟨b, hb⟩ : ∃ b, w.heap.size = b := ⟨_, rfl⟩
  rw [hq] at hbg ⊢
  rw [hb] at hbg ⊢
  have HBG := Lib.hid hbg
  have hst0 := H.out.below hbg.below
  have HST0 := Lib.hid hst0
  have x0 : w0.cell? ⟨b, 0, none⟩ = some (.int .i64 5) := hbg.box.cell 0 rfl
  have x3 : w0.cell? ⟨b, 3, none⟩ = some (.int .u64 (k : Int)) := hbg.box.cell 3 rfl
  have hat := arat_any a s c es i _ w0 hst0 HI.out hn
  have HAT := Lib.hid hat
  have hsp : SpAt w0 p F ps := hst0.at_ _ (List.mem_of_getElem? HI.out)
  have hcc := (show Calls Tryz.prog 115 #[.pointer (some ⟨p, 0, none⟩), .int .u64 (k : Int)] w0 (fun e w' => e = .returned (.tuple #[.bool true, .nilIface]) ∧ Below w0.heap.size w0 w') from HY.out ▸ getbit_any p F ps k w0 hsp hok hl hk)
  have HC := Lib.hid hcc
  clear hw0 hq hb hbg hst0 hat hsp hcc
  refine HAT.out.mono ?_
  rintro e w' ⟨rfl, rfl⟩
  go_wp2_with fail
  refine HC.out.mono ?_
  rintro e w1 ⟨rfl, hbw⟩
  have hs1 := HST0.out.below hbw
  have hf1 : Fr (foot a s c es) (foot a s c es) w0 w1 := Fr.of_below _ hbw
  have hlt := H.out.lt
  obtain ⟨hbx, hA1⟩ := HBG.out.keep hf1 hlt
  have hqn : q ∉ foot a s c es := fun e => by
    have h1 := HBG.out.hq
    have h2 := HBG.out.size
    rcases hf1.next q e with e | e
    · have := hlt q e; omega
    · omega
  have k0 : w1.cell? ⟨q, 0, none⟩ = some (.bool false) := hA1.cell 0 rfl
  have k1 : w1.cell? ⟨q, 1, none⟩ = some (.int .u64 ((0 : Nat) : Int)) := hA1.cell 1 rfl
  have k2 : w1.cell? ⟨q, 2, none⟩ = some (.slice none 0 0) := hA1.cell 2 rfl
  have k3 : w1.cell? ⟨q, 3, none⟩ = some (.bool false) := hA1.cell 3 rfl
  have f0 := hA1.free 0
  have f1 := hA1.free 1
  have f2 := hA1.free 2
  have f3 := hA1.free 3
  have HA1 := Lib.hid hA1
  have HS1 := Lib.hid hs1
  have HF1 := Lib.hid hf1
  have HQN := Lib.hid hqn
  clear hs1 hf1 hA1 hlt hbx hqn
  go_wp2_with fail
  have hE : Blk _ q 44 #[.bool true, .int .u64 ((1 : Nat) : Int), .slice none 0 0, .bool false] := ((HA1.out.set 0 (.bool true)).set 1 (.int .u64 ((1 : Nat) : Int)))
  refine step_end (q := q) (by rfl) (ans_again hE) ⟨rfl, HS1.out.done ((fr_store_other w1 q 0 _).trans ((fr_store_other _ q 1 _).trans (fr_again _ q _ _ _ _))) HQN.out, step_fr HBG.out HF1.out H.out.lt ((fr_store_other w1 q 0 _).trans ((fr_store_other _ q 1 _).trans (fr_again _ q _ _ _ _)))⟩

set_option maxRecDepth 100000 in
set_option maxHeartbeats 1000000 in
theorem step5n_sp (a : Nat) (s : Option Addr) (c : Nat) (es : List Ent) (i p : Nat) (F : List Nat) (ps : Ps) (by_ : Int) (k : Nat) (most : Int) (all : Bool) (w : World) (h : Sta w a s c es) (hn : es.length ≤ 1000) (hi : es[i]? = some ⟨p, F, .sp ps⟩) (hok : Ok ps) (hl : ps.length ≤ 1000) (hk : k < 18446744073709551616) (hy : sHas (nums ps) k = false) :
    Calls Tryz.prog 22 #[.pointer (some ⟨a, 0, none⟩), stepV 5 (i : Int) by_ k most all] w fun e w' => e = .returned (ansV true 0 (.slice none 0 0)) ∧ Sta w' a s c es ∧ Fr (foot a s c es) (foot a s c es) w w' := by
  unfold stepV ansV
  have hmf : ∀ (fn : Fn) (first cap : Array Value) (w : World), (Instr.makeFunc fn first cap).run Tryz.prog w = .ok (.func fn first cap) w := fun _ _ _ _ => rfl
  have hme := meth_sparseBitArray_GetBit (.pointer (some ⟨p, 0, none⟩))
  have H := Lib.hid h
  have HI := Lib.hid hi
  have HY := Lib.hid hy
  clear hy
  clear h hi
  go_enter_defers Tryz.func22, Tryz.ntmps22
  go_wp2_with fail
  have hbg := began w #[.int .i64 5, .int .i64 (i : Int), .int .i64 by_, .int .u64 (k : Int), .int .i64 most, .bool all]
  obtain ⟨w0, hw0⟩ : ∃ w0, (w.alloc (Obj.cells #[.int .i64 5, .int .i64 (i : Int), .int .i64 by_, .int .u64 (k : Int), .int .i64 most, .bool all] 33)).alloc (.cells #[.bool false, .int .u64 0, .slice none 0 0, .bool false] 44) = w0 := ⟨_, rfl⟩
  rw [hw0] at hbg ⊢
  obtain ⟨q, hq⟩ : ∃ q, w.heap.size + 1 = q := ⟨_, rfl⟩
  obtain ⟨b, hb⟩ : ∃ b, w.heap.size = b := ⟨_, rfl⟩
  rw [hq] at hbg ⊢
  rw [hb] at hbg ⊢
  have HBG := Lib.hid hbg
  have hst0 := H.out.below hbg.below
  have HST0 := Lib.hid hst0
  have x0 : w0.cell? ⟨b, 0, none⟩ = some (.int .i64 5) := hbg.box.cell 0 rfl
  have x3 : w0.cell? ⟨b, 3, none⟩ = some (.int .u64 (k : Int)) := hbg.box.cell 3 rfl
  have hat := arat_any a s c es i _ w0 hst0 HI.out hn
  have HAT := Lib.hid hat
  have hsp : SpAt w0 p F ps := hst0.at_ _ (List.mem_of_getElem? HI.out)
  have hcc := (show Calls Tryz.prog 115 #[.pointer (some ⟨p, 0, none⟩), .int .u64 (k : Int)] w0 (fun e w' => e = .returned (.tuple #[.bool false, .nilIface]) ∧ Below w0.heap.size w0 w') from HY.out ▸ getbit_any p F ps k w0 hsp hok hl hk)
  have HC := Lib.hid hcc
  clear hw0 hq hb hbg hst0 hat hsp hcc
  refine HAT.out.mono ?_
  rintro e w' ⟨rfl, rfl⟩
  go_wp2_with fail
  refine HC.out.mono ?_
  rintro e w1 ⟨rfl, hbw⟩
  have hs1 := HST0.out.below hbw
  have hf1 : Fr (foot a s c es) (foot a s c es) w0 w1 := Fr.of_below _ hbw
  have hlt := H.out.lt
  obtain ⟨hbx, hA1⟩ := HBG.out.keep hf1 hlt
  have hqn : q ∉ foot a s c es := fun e => by
    have h1 := HBG.out.hq
    have h2 := HBG.out.size
    rcases hf1.next q e with e | e
    · have := hlt q e; omega
    · omega
  have k0 : w1.cell? ⟨q, 0, none⟩ = some (.bool false) := hA1.cell 0 rfl
  have k1 : w1.cell? ⟨q, 1, none⟩ = some (.int .u64 ((0 : Nat) : Int)) := hA1.cell 1 rfl
  have k2 : w1.cell? ⟨q, 2, none⟩ = some (.slice none 0 0) := hA1.cell 2 rfl
  have k3 : w1.cell? ⟨q, 3, none⟩ = some (.bool false) := hA1.cell 3 rfl
  have f0 := hA1.free 0
  have f1 := hA1.free 1
  have f2 := hA1.free 2
  have f3 := hA1.free 3
  have HA1 := Lib.hid hA1
  have HS1 := Lib.hid hs1
  have HF1 := Lib.hid hf1
  have HQN := Lib.hid hqn
  clear hs1 hf1 hA1 hlt hbx hqn
  go_wp2_with fail
  have hE : Blk _ q 44 #[.bool true, .int .u64 ((0 : Nat) : Int), .slice none 0 0, .bool false] := (HA1.out.set 0 (.bool true))
  refine step_end (q := q) (by rfl) (ans_again hE) ⟨rfl, HS1.out.done ((fr_store_other w1 q 0 _).trans (fr_again _ q _ _ _ _)) HQN.out, step_fr HBG.out HF1.out H.out.lt ((fr_store_other w1 q 0 _).trans (fr_again _ q _ _ _ _))⟩

set_option maxRecDepth 100000 in
set_option maxHeartbeats 1000000 in
theorem step14_sp (a : Nat) (s : Option Addr) (c : Nat) (es : List Ent) (i p : Nat) (F : List Nat) (ps : Ps) (by_ : Int) (k : Nat) (most : Int) (all : Bool) (w : World) (h : Sta w a s c es) (hn : es.length ≤ 1000) (hi : es[i]? = some ⟨p, F, .sp ps⟩) (hok : Ok ps) (hl : ps.length ≤ 1000) (hb57 : ∀ q ∈ ps, q.1 < 144115188075855872) :
    Calls Tryz.prog 22 #[.pointer (some ⟨a, 0, none⟩), stepV 14 (i : Int) by_ k most all] w fun e w' => ∃ v m cc, e = .returned (ansV false 0 (.slice v m cc)) ∧ w'.ownsRow w.heap.size 25 1 (.slice v m cc) m (u64s (nums ps)) ∧ (∀ k ∈ obl (.slice v m cc), k ∉ foot a s c es) ∧ Sta w' a s c es ∧ Fr (foot a s c es) (foot a s c es) w w' := by
  unfold stepV ansV
  have hmf : ∀ (fn : Fn) (first cap : Array Value) (w : World), (Instr.makeFunc fn first cap).run Tryz.prog w = .ok (.func fn first cap) w := fun _ _ _ _ => rfl
  have hme := meth_sparseBitArray_ToNums (.pointer (some ⟨p, 0, none⟩))
  have H := Lib.hid h
  have HI := Lib.hid hi
  clear h hi
  go_enter_defers Tryz.func22, Tryz.ntmps22
  go_wp2_with fail
  have hbg := began w #[.int .i64 14, .int .i64 (i : Int), .int .i64 by_, .int .u64 (k : Int), .int .i64 most, .bool all]
  obtain ⟨w0, hw0⟩ : ∃ w0, (w.alloc (Obj.cells #[.int .i64 14, .int .i64 (i : Int), .int .i64 by_, .int .u64 (k : Int), .int .i64 most, .bool all] 33)).alloc (.cells #[.bool false, .int .u64 0, .slice none 0 0, .bool false] 44) = w0 := ⟨_, rfl⟩
  rw [hw0] at hbg ⊢
  obtain ⟨q, hq⟩ : ∃ q, w.heap.size + 1 = q := ⟨_, rfl⟩
  obtain ⟨b, hb⟩ : ∃ b, w.heap.size = b := ⟨_, rfl⟩
  rw [hq] at hbg ⊢
  rw [hb] at hbg ⊢
  have HBG := Lib.hid hbg
  have hst0 := H.out.below hbg.below
  have HST0 := Lib.hid hst0
  have x0 : w0.cell? ⟨b, 0, none⟩ = some (.int .i64 14) := hbg.box.cell 0 rfl
  have x3 : w0.cell? ⟨b, 3, none⟩ = some (.int .u64 (k : Int)) := hbg.box.cell 3 rfl
  have hat := arat_any a s c es i _ w0 hst0 HI.out hn
  have HAT := Lib.hid hat
  have hsp : SpAt w0 p F ps := hst0.at_ _ (List.mem_of_getElem? HI.out)
  have hcc := allnums_any p F ps w0 hsp hok hl hb57
  have HC := Lib.hid hcc
  clear hw0 hq hb hbg hst0 hat hsp hcc
  refine HAT.out.mono ?_
  rintro e w' ⟨rfl, rfl⟩
  go_wp2_with fail
  refine HC.out.mono ?_
  rintro e w1 ⟨v, m, cc, rfl, hown, hbw⟩
  have hs1 := HST0.out.below hbw
  have hf1 : Fr (foot a s c es) (foot a s c es) w0 w1 := Fr.of_below _ hbw
  have hqv : q ∉ obl (.slice v m cc) := fun e => by
    have h1 := HBG.out.hq
    have h2 := HBG.out.size
    have := (own_lt hown q e).2
    omega
  have HQV := Lib.hid hqv
  have HOW := Lib.hid hown
  clear hqv hown
  have hlt := H.out.lt
  obtain ⟨hbx, hA1⟩ := HBG.out.keep hf1 hlt
  have hqn : q ∉ foot a s c es := fun e => by
    have h1 := HBG.out.hq
    have h2 := HBG.out.size
    rcases hf1.next q e with e | e
    · have := hlt q e; omega
    · omega
  have k0 : w1.cell? ⟨q, 0, none⟩ = some (.bool false) := hA1.cell 0 rfl
  have k1 : w1.cell? ⟨q, 1, none⟩ = some (.int .u64 ((0 : Nat) : Int)) := hA1.cell 1 rfl
  have k2 : w1.cell? ⟨q, 2, none⟩ = some (.slice none 0 0) := hA1.cell 2 rfl
  have k3 : w1.cell? ⟨q, 3, none⟩ = some (.bool false) := hA1.cell 3 rfl
  have f0 := hA1.free 0
  have f1 := hA1.free 1
  have f2 := hA1.free 2
  have f3 := hA1.free 3
  have HA1 := Lib.hid hA1
  have HS1 := Lib.hid hs1
  have HF1 := Lib.hid hf1
  have HQN := Lib.hid hqn
  clear hs1 hf1 hA1 hlt hbx hqn
  go_wp2_with fail
  have hE : Blk _ q 44 #[.bool false, .int .u64 ((0 : Nat) : Int), .slice v m cc, .bool false] := (HA1.out.set 2 (.slice v m cc))
  refine step_end (q := q) (by rfl) (ans_again hE) ⟨v, m, cc, rfl, own_base (Fr.own ((fr_store_other w1 q 2 _).trans (fr_again _ q _ _ _ _)) HOW.out (fun k hk hk2 => HQV.out (by rw [List.mem_singleton] at hk2; exact hk2 ▸ hk))) (by have := HBG.out.size; omega), (fun k hk hk2 => by have h1 := H.out.lt k hk2; have h2 := (own_lt HOW.out k hk).2; have h3 := HBG.out.size; omega), HS1.out.done ((fr_store_other w1 q 2 _).trans (fr_again _ q _ _ _ _)) HQN.out, step_fr HBG.out HF1.out H.out.lt ((fr_store_other w1 q 2 _).trans (fr_again _ q _ _ _ _))⟩

end Go.Proofs.YtgifbdjifmoafaaGreat
