/- Walk of impl.pqStep: the steps without loops. -/
import Derived.Test.YtepjailijekepaaDoorPqStepB
namespace Go.Proofs.YtepjailijekepaaDoor
set_option linter.unusedVariables false
open Go.RowKit
open Pqm

theorem assert_pqn (w : World) : (Instr.typeAssert .nilIface 64 55 true).run Tryd.prog w = .ok (.tuple #[.agg #[.int .i64 0, .int .i64 0], .bool false]) w := by kernel_rfl
theorem assert_pqy (v : Value) (w : World) : (Instr.typeAssert (.iface 55 v) 64 55 true).run Tryd.prog w = .ok (.tuple #[v, .bool true]) w := by kernel_rfl

set_option maxRecDepth 100000 in
set_option maxHeartbeats 1000000 in
theorem pstep2g (a0 a1 a2 : Addr) (b m : Nat) (p : Option Addr) (q : List It) (dup : Bool) (N : Nat) (v : Value) (w : World) (H : PSt w b m p q true dup) (h9 : q.length ≤ 100000) (hS : Sn w a0 a1 a2) (hN0 : 1 ≤ N) (hN : N ≤ 1000) :
    Calls Tryd.prog 12 #[.pointer (some ⟨b, 0, none⟩), .agg #[.int .i64 2, .int .i64 (N : Int), v]] w fun e w' => e = .returned (.agg #[.slice none 0 0, .int .i64 0, .bool false, .int .i64 1]) ∧ PSt w' b m p q true dup ∧ PqFr b m (obk p) (obk p) w w' := by
  have HS := Lib.hid hS
  have hn1 : (1 : Int) ≤ (N : Int) := by omega
  clear hS
  have HH := Lib.hid H
  have H9 := Lib.hid h9
  have hW : Below w.heap.size w ((w.alloc (.cells #[.int .i64 2, .int .i64 (N : Int), v] 24)).alloc (.cells #[.slice none 0 0, .int .i64 0, .bool false, .int .i64 0] 33)) := ((Below.refl _ _).alloc (Nat.le_refl _) _).alloc (by simp) _
  have HW := Lib.hid hW
  clear H h9 hW
  go_enter Tryd.func12, Tryd.ntmps12
  go_wp2_with fail
  have hK := Blk.new (w.alloc (.cells #[.int .i64 2, .int .i64 (N : Int), v] 24)) 33 #[.slice none 0 0, .int .i64 0, .bool false, .int .i64 0]
  rw [show (w.alloc (.cells #[.int .i64 2, .int .i64 (N : Int), v] 24)).heap.size = w.heap.size + 1 by simp] at hK
  have hK2 := (Blk.new w 24 #[.int .i64 2, .int .i64 (N : Int), v]).alloc (.cells #[.slice none 0 0, .int .i64 0, .bool false, .int .i64 0] 33)
  obtain ⟨wB, hwB⟩ : ∃ wB, ((w.alloc (.cells #[.int .i64 2, .int .i64 (N : Int), v] 24)).alloc (.cells #[.slice none 0 0, .int .i64 0, .bool false, .int .i64 0] 33)) = wB := ⟨_, rfl⟩
  rw [hwB] at HW hK hK2 ⊢
  have hzB : wB.heap.size = w.heap.size + 2 := by rw [← hwB]; simp
  have HK := Lib.hid hK
  have HZB := Lib.hid hzB
  have hP := HH.out.below HW.out
  have HP := Lib.hid hP
  have e1 : wB.cell? ⟨w.heap.size, 1, none⟩ = some (.int .i64 (N : Int)) := hK2.cell 1 rfl
  have k0 : wB.cell? ⟨w.heap.size + 1, 0, none⟩ = some (.slice none 0 0) := hK.cell 0 rfl
  have k1 : wB.cell? ⟨w.heap.size + 1, 1, none⟩ = some (.int .i64 0) := hK.cell 1 rfl
  have k2 : wB.cell? ⟨w.heap.size + 1, 2, none⟩ = some (.bool false) := hK.cell 2 rfl
  have k3 : wB.cell? ⟨w.heap.size + 1, 3, none⟩ = some (.int .i64 0) := hK.cell 3 rfl
  have f0 := hK.free 0
  have f1 := hK.free 1
  have f2 := hK.free 2
  have f3 := hK.free 3
  obtain ⟨c, L, ks, h1, h2, h3, h4, h5⟩ := hP.h
  have hL9 : L.length ≤ 100000 := by rw [h3.length_eq]; exact H9.out
  clear hwB hK hK2 hP
  have hL0 : L.length = 0 := by rw [h3.length_eq, h5 rfl]; rfl
  have hE := Empty_any b m p c L ks true dup wB h1 hL9
  rw [show decide (L.length = 0) = true by simpa using hL0] at hE
  have HE := Lib.hid hE
  have HD := Lib.hid (Disposed_any b m p c L ks true dup wB h1)
  have HG := Lib.hid (Get_gone a0 a1 a2 b m p c L ks dup N wB (HS.out.below (Nat.le_refl _) HW.out) h1 hN0 hN)
  clear h1 h2 h3 h4 h5 hL0 hE hL9
  refine HE.out.mono ?_
  rintro e w' ⟨rfl, rfl⟩
  go_wp2_with fail
  refine HD.out.mono ?_
  rintro e w' ⟨rfl, rfl⟩
  go_wp2_with fail
  refine HG.out.mono ?_
  rintro e w2 ⟨rfl, hb2⟩
  have HK2 := Lib.hid (HK.out.below hb2 HK.out.lt)
  have HS2 := Lib.hid (HS.out.below (Nat.le_refl _) (HW.out.trans (hb2.mono HW.out.size)))
  have HF2 : Hid (Below w.heap.size w w2) := Lib.hid (HW.out.trans (hb2.mono HW.out.size))
  have HPP := Lib.hid (HP.out.below hb2)
  have hz2 : wB.heap.size ≤ w2.heap.size := hb2.size
  clear hb2 e1 k0 k1 k2 k3 f0 f1 f2 f3
  have HEE := Lib.hid (pqerr1 a0 a1 a2 w2 HS2.out)
  go_wp2_with fail
  refine HEE.out.mono ?_
  rintro e w3 ⟨rfl, rfl⟩
  go_wp2_with fail
  have hr := Blk.new w2 33 #[.slice none 0 0, .int .i64 0, .bool false, .int .i64 1]
  have hbC : Below w2.heap.size w2 (w2.alloc (.cells #[.slice none 0 0, .int .i64 0, .bool false, .int .i64 1] 33)) := (Below.refl _ _).alloc (Nat.le_refl _) _
  obtain ⟨wC, hwC⟩ : ∃ wC, w2.alloc (.cells #[.slice none 0 0, .int .i64 0, .bool false, .int .i64 1] 33) = wC := ⟨_, rfl⟩
  rw [hwC] at hr hbC ⊢
  have HR := Lib.hid hr
  have HBC := Lib.hid hbC
  have HKC := Lib.hid (HK2.out.below hbC HK2.out.lt)
  clear hwC hr hbC
  go_loopg [65] 0 (fun k idx wr => idx = .int .i64 0 ∧ wr = wC)
  case atStart => exact ⟨rfl, rfl⟩
  case round =>
    obtain ⟨rfl, rfl⟩ := hrel
    have d0 : wr.cell? ⟨w2.heap.size, 0, none⟩ = some (.slice none 0 0) := HR.out.cell 0 rfl
    have d1 : wr.cell? ⟨w2.heap.size, 1, none⟩ = some (.int .i64 0) := HR.out.cell 1 rfl
    have d2 : wr.cell? ⟨w2.heap.size, 2, none⟩ = some (.bool false) := HR.out.cell 2 rfl
    have d3 : wr.cell? ⟨w2.heap.size, 3, none⟩ = some (.int .i64 1) := HR.out.cell 3 rfl
    have k0 : wr.cell? ⟨w.heap.size + 1, 0, none⟩ = some (.slice none 0 0) := HKC.out.cell 0 rfl
    have k1 : wr.cell? ⟨w.heap.size + 1, 1, none⟩ = some (.int .i64 0) := HKC.out.cell 1 rfl
    have k2 : wr.cell? ⟨w.heap.size + 1, 2, none⟩ = some (.bool false) := HKC.out.cell 2 rfl
    have k3 : wr.cell? ⟨w.heap.size + 1, 3, none⟩ = some (.int .i64 0) := HKC.out.cell 3 rfl
    have f0 := HKC.out.free 0
    have f1 := HKC.out.free 1
    have f2 := HKC.out.free 2
    have f3 := HKC.out.free 3
    go_wp2_with fail
    have hB := st4_blk HKC.out rfl (.slice none 0 0) (.int .i64 0) (.bool false) (.int .i64 1)
    have c0 := hB.cell 0 rfl
    have c1 := hB.cell 1 rfl
    have c2 := hB.cell 2 rfl
    have c3 := hB.cell 3 rfl
    have hlt := HH.out.lt
    have hz := HZB.out
    refine bodyPost_ret (v := .agg #[.slice none 0 0, .int .i64 0, .bool false, .int .i64 1]) (by simp [results, Tryd.results12, go_sem, c0, c1, c2, c3]) rfl ⟨rfl, ?_, ?_⟩
    · exact (HPP.out.below HBC.out).grown (st4_grown _ _ _ _ _ _) (by omega) (by omega) (fun e => by have := hlt.2.2 _ e; omega)
    · exact (PqFr.of_below (HF2.out.trans (HBC.out.mono HF2.out.size))).step (st4_grown _ _ _ _ _ _) (fun j e => by injection e with e; omega)

set_option maxRecDepth 100000 in
set_option maxHeartbeats 1000000 in
theorem pstep2e (b m : Nat) (p : Option Addr) (q : List It) (dup : Bool) (N : Nat) (v : Value) (w : World) (H : PSt w b m p q false dup) (h9 : q.length ≤ 100000) (hq : q = []) (hN0 : 1 ≤ N) :
    Calls Tryd.prog 12 #[.pointer (some ⟨b, 0, none⟩), .agg #[.int .i64 2, .int .i64 (N : Int), v]] w fun e w' => e = .returned (.agg #[.slice none 0 0, .int .i64 0, .bool false, .int .i64 (-1)]) ∧ PSt w' b m p q false dup ∧ PqFr b m (obk p) (obk p) w w' := by
  have HQ := Lib.hid hq
  have hn1 : (1 : Int) ≤ (N : Int) := by omega
  clear hq
  have HH := Lib.hid H
  have H9 := Lib.hid h9
  have hW : Below w.heap.size w ((w.alloc (.cells #[.int .i64 2, .int .i64 (N : Int), v] 24)).alloc (.cells #[.slice none 0 0, .int .i64 0, .bool false, .int .i64 0] 33)) := ((Below.refl _ _).alloc (Nat.le_refl _) _).alloc (by simp) _
  have HW := Lib.hid hW
  clear H h9 hW
  go_enter Tryd.func12, Tryd.ntmps12
  go_wp2_with fail
  have hK := Blk.new (w.alloc (.cells #[.int .i64 2, .int .i64 (N : Int), v] 24)) 33 #[.slice none 0 0, .int .i64 0, .bool false, .int .i64 0]
  rw [show (w.alloc (.cells #[.int .i64 2, .int .i64 (N : Int), v] 24)).heap.size = w.heap.size + 1 by simp] at hK
  have hK2 := (Blk.new w 24 #[.int .i64 2, .int .i64 (N : Int), v]).alloc (.cells #[.slice none 0 0, .int .i64 0, .bool false, .int .i64 0] 33)
  obtain ⟨wB, hwB⟩ : ∃ wB, ((w.alloc (.cells #[.int .i64 2, .int .i64 (N : Int), v] 24)).alloc (.cells #[.slice none 0 0, .int .i64 0, .bool false, .int .i64 0] 33)) = wB := ⟨_, rfl⟩
  rw [hwB] at HW hK hK2 ⊢
  have hzB : wB.heap.size = w.heap.size + 2 := by rw [← hwB]; simp
  have HK := Lib.hid hK
  have HZB := Lib.hid hzB
  have hP := HH.out.below HW.out
  have HP := Lib.hid hP
  have e1 : wB.cell? ⟨w.heap.size, 1, none⟩ = some (.int .i64 (N : Int)) := hK2.cell 1 rfl
  have k0 : wB.cell? ⟨w.heap.size + 1, 0, none⟩ = some (.slice none 0 0) := hK.cell 0 rfl
  have k1 : wB.cell? ⟨w.heap.size + 1, 1, none⟩ = some (.int .i64 0) := hK.cell 1 rfl
  have k2 : wB.cell? ⟨w.heap.size + 1, 2, none⟩ = some (.bool false) := hK.cell 2 rfl
  have k3 : wB.cell? ⟨w.heap.size + 1, 3, none⟩ = some (.int .i64 0) := hK.cell 3 rfl
  have f0 := hK.free 0
  have f1 := hK.free 1
  have f2 := hK.free 2
  have f3 := hK.free 3
  obtain ⟨c, L, ks, h1, h2, h3, h4, h5⟩ := hP.h
  have hL9 : L.length ≤ 100000 := by rw [h3.length_eq]; exact H9.out
  clear hwB hK hK2 hP
  have hL0 : L.length = 0 := by rw [h3.length_eq, HQ.out]; rfl
  have hE := Empty_any b m p c L ks false dup wB h1 hL9
  rw [show decide (L.length = 0) = true by simpa using hL0] at hE
  have HE := Lib.hid hE
  have HD := Lib.hid (Disposed_any b m p c L ks false dup wB h1)
  clear h1 h2 h3 h4 h5 hL0 hE hL9
  refine HE.out.mono ?_
  rintro e w' ⟨rfl, rfl⟩
  go_wp2_with fail
  refine HD.out.mono ?_
  rintro e w' ⟨rfl, rfl⟩
  go_wp2_with fail
  have hB := st4_blk HK.out rfl (.slice none 0 0) (.int .i64 0) (.bool false) (.int .i64 (-1))
  have c0 := hB.cell 0 rfl
  have c1 := hB.cell 1 rfl
  have c2 := hB.cell 2 rfl
  have c3 := hB.cell 3 rfl
  have hlt := HH.out.lt
  have hz := HZB.out
  refine bodyPost_ret (v := .agg #[.slice none 0 0, .int .i64 0, .bool false, .int .i64 (-1)]) (by simp [results, Tryd.results12, go_sem, c0, c1, c2, c3]) rfl ⟨rfl, ?_, ?_⟩
  · exact HP.out.grown (st4_grown _ _ _ _ _ _) (by omega) (by omega) (fun e => by have := hlt.2.2 _ e; omega)
  · exact (PqFr.of_below HW.out).step (st4_grown _ _ _ _ _ _) (fun j e => by injection e with e; omega)

set_option maxRecDepth 100000 in
set_option maxHeartbeats 1000000 in
theorem pstep4 (b m : Nat) (p : Option Addr) (q : List It) (gone : Bool) (dup : Bool) (N : Int) (v : Value) (w : World) (H : PSt w b m p q gone dup) (h9 : q.length ≤ 100000) (E : Int) (hE : (q.length : Int) = E) :
    Calls Tryd.prog 12 #[.pointer (some ⟨b, 0, none⟩), .agg #[.int .i64 4, .int .i64 N, v]] w fun e w' => e = .returned (.agg #[.slice none 0 0, .int .i64 E, .bool false, .int .i64 0]) ∧ PSt w' b m p q gone dup ∧ PqFr b m (obk p) (obk p) w w' := by
  have HEQ := Lib.hid hE
  clear hE
  have HH := Lib.hid H
  have H9 := Lib.hid h9
  have hW : Below w.heap.size w ((w.alloc (.cells #[.int .i64 4, .int .i64 N, v] 24)).alloc (.cells #[.slice none 0 0, .int .i64 0, .bool false, .int .i64 0] 33)) := ((Below.refl _ _).alloc (Nat.le_refl _) _).alloc (by simp) _
  have HW := Lib.hid hW
  clear H h9 hW
  go_enter Tryd.func12, Tryd.ntmps12
  go_wp2_with fail
  have hK := Blk.new (w.alloc (.cells #[.int .i64 4, .int .i64 N, v] 24)) 33 #[.slice none 0 0, .int .i64 0, .bool false, .int .i64 0]
  rw [show (w.alloc (.cells #[.int .i64 4, .int .i64 N, v] 24)).heap.size = w.heap.size + 1 by simp] at hK
  have hK2 := (Blk.new w 24 #[.int .i64 4, .int .i64 N, v]).alloc (.cells #[.slice none 0 0, .int .i64 0, .bool false, .int .i64 0] 33)
  obtain ⟨wB, hwB⟩ : ∃ wB, ((w.alloc (.cells #[.int .i64 4, .int .i64 N, v] 24)).alloc (.cells #[.slice none 0 0, .int .i64 0, .bool false, .int .i64 0] 33)) = wB := ⟨_, rfl⟩
  rw [hwB] at HW hK hK2 ⊢
  have hzB : wB.heap.size = w.heap.size + 2 := by rw [← hwB]; simp
  have HK := Lib.hid hK
  have HZB := Lib.hid hzB
  have hP := HH.out.below HW.out
  have HP := Lib.hid hP
  have e1 : wB.cell? ⟨w.heap.size, 1, none⟩ = some (.int .i64 N) := hK2.cell 1 rfl
  have k0 : wB.cell? ⟨w.heap.size + 1, 0, none⟩ = some (.slice none 0 0) := hK.cell 0 rfl
  have k1 : wB.cell? ⟨w.heap.size + 1, 1, none⟩ = some (.int .i64 0) := hK.cell 1 rfl
  have k2 : wB.cell? ⟨w.heap.size + 1, 2, none⟩ = some (.bool false) := hK.cell 2 rfl
  have k3 : wB.cell? ⟨w.heap.size + 1, 3, none⟩ = some (.int .i64 0) := hK.cell 3 rfl
  have f0 := hK.free 0
  have f1 := hK.free 1
  have f2 := hK.free 2
  have f3 := hK.free 3
  obtain ⟨c, L, ks, h1, h2, h3, h4, h5⟩ := hP.h
  have hL9 : L.length ≤ 100000 := by rw [h3.length_eq]; exact H9.out
  clear hwB hK hK2 hP
  have hC := Len_any b m p c L ks gone dup wB h1 hL9
  rw [h3.length_eq] at hC
  rw [HEQ.out] at hC
  have HC := Lib.hid hC
  clear h1 h2 h3 h4 h5 hC hL9
  refine HC.out.mono ?_
  rintro e w' ⟨rfl, rfl⟩
  go_wp2_with fail
  have hB := st4_blk HK.out rfl (.slice none 0 0) (.int .i64 E) (.bool false) (.int .i64 0)
  have c0 := hB.cell 0 rfl
  have c1 := hB.cell 1 rfl
  have c2 := hB.cell 2 rfl
  have c3 := hB.cell 3 rfl
  have hlt := HH.out.lt
  have hz := HZB.out
  refine bodyPost_ret (v := .agg #[.slice none 0 0, .int .i64 E, .bool false, .int .i64 0]) (by simp [results, Tryd.results12, go_sem, c0, c1, c2, c3]) rfl ⟨rfl, ?_, ?_⟩
  · exact HP.out.grown (st4_grown _ _ _ _ _ _) (by omega) (by omega) (fun e => by have := hlt.2.2 _ e; omega)
  · exact (PqFr.of_below HW.out).step (st4_grown _ _ _ _ _ _) (fun j e => by injection e with e; omega)

set_option maxRecDepth 100000 in
set_option maxHeartbeats 1000000 in
theorem pstep5 (b m : Nat) (p : Option Addr) (q : List It) (gone : Bool) (dup : Bool) (N : Int) (v : Value) (w : World) (H : PSt w b m p q gone dup) (h9 : q.length ≤ 100000) (E : Bool) (hE : decide (q.length = 0) = E) :
    Calls Tryd.prog 12 #[.pointer (some ⟨b, 0, none⟩), .agg #[.int .i64 5, .int .i64 N, v]] w fun e w' => e = .returned (.agg #[.slice none 0 0, .int .i64 0, .bool E, .int .i64 0]) ∧ PSt w' b m p q gone dup ∧ PqFr b m (obk p) (obk p) w w' := by
  have HEQ := Lib.hid hE
  clear hE
  have HH := Lib.hid H
  have H9 := Lib.hid h9
  have hW : Below w.heap.size w ((w.alloc (.cells #[.int .i64 5, .int .i64 N, v] 24)).alloc (.cells #[.slice none 0 0, .int .i64 0, .bool false, .int .i64 0] 33)) := ((Below.refl _ _).alloc (Nat.le_refl _) _).alloc (by simp) _
  have HW := Lib.hid hW
  clear H h9 hW
  go_enter Tryd.func12, Tryd.ntmps12
  go_wp2_with fail
  have hK := Blk.new (w.alloc (.cells #[.int .i64 5, .int .i64 N, v] 24)) 33 #[.slice none 0 0, .int .i64 0, .bool false, .int .i64 0]
  rw [show (w.alloc (.cells #[.int .i64 5, .int .i64 N, v] 24)).heap.size = w.heap.size + 1 by simp] at hK
  have hK2 := (Blk.new w 24 #[.int .i64 5, .int .i64 N, v]).alloc (.cells #[.slice none 0 0, .int .i64 0, .bool false, .int .i64 0] 33)
  obtain ⟨wB, hwB⟩ : ∃ wB, ((w.alloc (.cells #[.int .i64 5, .int .i64 N, v] 24)).alloc (.cells #[.slice none 0 0, .int .i64 0, .bool false, .int .i64 0] 33)) = wB := ⟨_, rfl⟩
  rw [hwB] at HW hK hK2 ⊢
  have hzB : wB.heap.size = w.heap.size + 2 := by rw [← hwB]; simp
  have HK := Lib.hid hK
  have HZB := Lib.hid hzB
  have hP := HH.out.below HW.out
  have HP := Lib.hid hP
  have e1 : wB.cell? ⟨w.heap.size, 1, none⟩ = some (.int .i64 N) := hK2.cell 1 rfl
  have k0 : wB.cell? ⟨w.heap.size + 1, 0, none⟩ = some (.slice none 0 0) := hK.cell 0 rfl
  have k1 : wB.cell? ⟨w.heap.size + 1, 1, none⟩ = some (.int .i64 0) := hK.cell 1 rfl
  have k2 : wB.cell? ⟨w.heap.size + 1, 2, none⟩ = some (.bool false) := hK.cell 2 rfl
  have k3 : wB.cell? ⟨w.heap.size + 1, 3, none⟩ = some (.int .i64 0) := hK.cell 3 rfl
  have f0 := hK.free 0
  have f1 := hK.free 1
  have f2 := hK.free 2
  have f3 := hK.free 3
  obtain ⟨c, L, ks, h1, h2, h3, h4, h5⟩ := hP.h
  have hL9 : L.length ≤ 100000 := by rw [h3.length_eq]; exact H9.out
  clear hwB hK hK2 hP
  have hC := Empty_any b m p c L ks gone dup wB h1 hL9
  rw [h3.length_eq] at hC
  rw [HEQ.out] at hC
  have HC := Lib.hid hC
  clear h1 h2 h3 h4 h5 hC hL9
  refine HC.out.mono ?_
  rintro e w' ⟨rfl, rfl⟩
  go_wp2_with fail
  have hB := st4_blk HK.out rfl (.slice none 0 0) (.int .i64 0) (.bool E) (.int .i64 0)
  have c0 := hB.cell 0 rfl
  have c1 := hB.cell 1 rfl
  have c2 := hB.cell 2 rfl
  have c3 := hB.cell 3 rfl
  have hlt := HH.out.lt
  have hz := HZB.out
  refine bodyPost_ret (v := .agg #[.slice none 0 0, .int .i64 0, .bool E, .int .i64 0]) (by simp [results, Tryd.results12, go_sem, c0, c1, c2, c3]) rfl ⟨rfl, ?_, ?_⟩
  · exact HP.out.grown (st4_grown _ _ _ _ _ _) (by omega) (by omega) (fun e => by have := hlt.2.2 _ e; omega)
  · exact (PqFr.of_below HW.out).step (st4_grown _ _ _ _ _ _) (fun j e => by injection e with e; omega)

set_option maxRecDepth 100000 in
set_option maxHeartbeats 1000000 in
theorem pstep7 (b m : Nat) (p : Option Addr) (q : List It) (gone : Bool) (dup : Bool) (N : Int) (v : Value) (w : World) (H : PSt w b m p q gone dup) (h9 : q.length ≤ 100000) :
    Calls Tryd.prog 12 #[.pointer (some ⟨b, 0, none⟩), .agg #[.int .i64 7, .int .i64 N, v]] w fun e w' => e = .returned (.agg #[.slice none 0 0, .int .i64 0, .bool gone, .int .i64 0]) ∧ PSt w' b m p q gone dup ∧ PqFr b m (obk p) (obk p) w w' := by
  have HH := Lib.hid H
  have H9 := Lib.hid h9
  have hW : Below w.heap.size w ((w.alloc (.cells #[.int .i64 7, .int .i64 N, v] 24)).alloc (.cells #[.slice none 0 0, .int .i64 0, .bool false, .int .i64 0] 33)) := ((Below.refl _ _).alloc (Nat.le_refl _) _).alloc (by simp) _
  have HW := Lib.hid hW
  clear H h9 hW
  go_enter Tryd.func12, Tryd.ntmps12
  go_wp2_with fail
  have hK := Blk.new (w.alloc (.cells #[.int .i64 7, .int .i64 N, v] 24)) 33 #[.slice none 0 0, .int .i64 0, .bool false, .int .i64 0]
  rw [show (w.alloc (.cells #[.int .i64 7, .int .i64 N, v] 24)).heap.size = w.heap.size + 1 by simp] at hK
  have hK2 := (Blk.new w 24 #[.int .i64 7, .int .i64 N, v]).alloc (.cells #[.slice none 0 0, .int .i64 0, .bool false, .int .i64 0] 33)
  obtain ⟨wB, hwB⟩ : ∃ wB, ((w.alloc (.cells #[.int .i64 7, .int .i64 N, v] 24)).alloc (.cells #[.slice none 0 0, .int .i64 0, .bool false, .int .i64 0] 33)) = wB := ⟨_, rfl⟩
  rw [hwB] at HW hK hK2 ⊢
  have hzB : wB.heap.size = w.heap.size + 2 := by rw [← hwB]; simp
  have HK := Lib.hid hK
  have HZB := Lib.hid hzB
  have hP := HH.out.below HW.out
  have HP := Lib.hid hP
  have e1 : wB.cell? ⟨w.heap.size, 1, none⟩ = some (.int .i64 N) := hK2.cell 1 rfl
  have k0 : wB.cell? ⟨w.heap.size + 1, 0, none⟩ = some (.slice none 0 0) := hK.cell 0 rfl
  have k1 : wB.cell? ⟨w.heap.size + 1, 1, none⟩ = some (.int .i64 0) := hK.cell 1 rfl
  have k2 : wB.cell? ⟨w.heap.size + 1, 2, none⟩ = some (.bool false) := hK.cell 2 rfl
  have k3 : wB.cell? ⟨w.heap.size + 1, 3, none⟩ = some (.int .i64 0) := hK.cell 3 rfl
  have f0 := hK.free 0
  have f1 := hK.free 1
  have f2 := hK.free 2
  have f3 := hK.free 3
  obtain ⟨c, L, ks, h1, h2, h3, h4, h5⟩ := hP.h
  have hL9 : L.length ≤ 100000 := by rw [h3.length_eq]; exact H9.out
  clear hwB hK hK2 hP
  have hC := Disposed_any b m p c L ks gone dup wB h1
  have HC := Lib.hid hC
  clear h1 h2 h3 h4 h5 hC hL9
  refine HC.out.mono ?_
  rintro e w' ⟨rfl, rfl⟩
  go_wp2_with fail
  have hB := st4_blk HK.out rfl (.slice none 0 0) (.int .i64 0) (.bool gone) (.int .i64 0)
  have c0 := hB.cell 0 rfl
  have c1 := hB.cell 1 rfl
  have c2 := hB.cell 2 rfl
  have c3 := hB.cell 3 rfl
  have hlt := HH.out.lt
  have hz := HZB.out
  refine bodyPost_ret (v := .agg #[.slice none 0 0, .int .i64 0, .bool gone, .int .i64 0]) (by simp [results, Tryd.results12, go_sem, c0, c1, c2, c3]) rfl ⟨rfl, ?_, ?_⟩
  · exact HP.out.grown (st4_grown _ _ _ _ _ _) (by omega) (by omega) (fun e => by have := hlt.2.2 _ e; omega)
  · exact (PqFr.of_below HW.out).step (st4_grown _ _ _ _ _ _) (fun j e => by injection e with e; omega)

set_option maxRecDepth 100000 in
set_option maxHeartbeats 1000000 in
theorem pstep3e (b m : Nat) (p : Option Addr) (q : List It) (gone : Bool) (dup : Bool) (N : Int) (v : Value) (w : World) (H : PSt w b m p q gone dup) (h9 : q.length ≤ 100000) (hq : q = []) :
    Calls Tryd.prog 12 #[.pointer (some ⟨b, 0, none⟩), .agg #[.int .i64 3, .int .i64 N, v]] w fun e w' => e = .returned (.agg #[.slice none 0 0, .int .i64 0, .bool false, .int .i64 0]) ∧ PSt w' b m p q gone dup ∧ PqFr b m (obk p) (obk p) w w' := by
  have HQ := Lib.hid hq
  clear hq
  have HH := Lib.hid H
  have H9 := Lib.hid h9
  have hW : Below w.heap.size w ((w.alloc (.cells #[.int .i64 3, .int .i64 N, v] 24)).alloc (.cells #[.slice none 0 0, .int .i64 0, .bool false, .int .i64 0] 33)) := ((Below.refl _ _).alloc (Nat.le_refl _) _).alloc (by simp) _
  have HW := Lib.hid hW
  clear H h9 hW
  go_enter Tryd.func12, Tryd.ntmps12
  go_wp2_with fail
  have hK := Blk.new (w.alloc (.cells #[.int .i64 3, .int .i64 N, v] 24)) 33 #[.slice none 0 0, .int .i64 0, .bool false, .int .i64 0]
  rw [show (w.alloc (.cells #[.int .i64 3, .int .i64 N, v] 24)).heap.size = w.heap.size + 1 by simp] at hK
  have hK2 := (Blk.new w 24 #[.int .i64 3, .int .i64 N, v]).alloc (.cells #[.slice none 0 0, .int .i64 0, .bool false, .int .i64 0] 33)
  obtain ⟨wB, hwB⟩ : ∃ wB, ((w.alloc (.cells #[.int .i64 3, .int .i64 N, v] 24)).alloc (.cells #[.slice none 0 0, .int .i64 0, .bool false, .int .i64 0] 33)) = wB := ⟨_, rfl⟩
  rw [hwB] at HW hK hK2 ⊢
  have hzB : wB.heap.size = w.heap.size + 2 := by rw [← hwB]; simp
  have HK := Lib.hid hK
  have HZB := Lib.hid hzB
  have hP := HH.out.below HW.out
  have HP := Lib.hid hP
  have e1 : wB.cell? ⟨w.heap.size, 1, none⟩ = some (.int .i64 N) := hK2.cell 1 rfl
  have k0 : wB.cell? ⟨w.heap.size + 1, 0, none⟩ = some (.slice none 0 0) := hK.cell 0 rfl
  have k1 : wB.cell? ⟨w.heap.size + 1, 1, none⟩ = some (.int .i64 0) := hK.cell 1 rfl
  have k2 : wB.cell? ⟨w.heap.size + 1, 2, none⟩ = some (.bool false) := hK.cell 2 rfl
  have k3 : wB.cell? ⟨w.heap.size + 1, 3, none⟩ = some (.int .i64 0) := hK.cell 3 rfl
  have f0 := hK.free 0
  have f1 := hK.free 1
  have f2 := hK.free 2
  have f3 := hK.free 3
  obtain ⟨c, L, ks, h1, h2, h3, h4, h5⟩ := hP.h
  have hL9 : L.length ≤ 100000 := by rw [h3.length_eq]; exact H9.out
  clear hwB hK hK2 hP
  have hC := Peek_any b m p c L ks gone dup wB h1 hL9
  rw [if_pos (by rw [h3.length_eq, HQ.out]; rfl)] at hC
  have HC := Lib.hid hC
  have hta := assert_pqn
  clear h1 h2 h3 h4 h5 hC hL9
  refine HC.out.mono ?_
  rintro e w' ⟨rfl, rfl⟩
  go_wp2_with fail
  have hB := (st4_blk HK.out rfl (.slice none 0 0) (.int .i64 0) (.bool false) (.int .i64 0)).alloc (.cells #[.int .i64 0, .int .i64 0] 55)
  have c0 := hB.cell 0 rfl
  have c1 := hB.cell 1 rfl
  have c2 := hB.cell 2 rfl
  have c3 := hB.cell 3 rfl
  have hlt := HH.out.lt
  have hz := HZB.out
  refine bodyPost_ret (v := .agg #[.slice none 0 0, .int .i64 0, .bool false, .int .i64 0]) (by simp [results, Tryd.results12, go_sem, c0, c1, c2, c3]) rfl ⟨rfl, ?_, ?_⟩
  · exact (HP.out.grown (st4_grown _ _ _ _ _ _) (by omega) (by omega) (fun e => by have := hlt.2.2 _ e; omega)).below ((Below.refl _ _).alloc (Nat.le_refl _) _)
  · exact ((PqFr.of_below HW.out).step (st4_grown _ _ _ _ _ _) (fun j e => by injection e with e; omega)).trans (PqFr.of_below ((Below.refl _ _).alloc (Nat.le_refl _) _))

set_option maxRecDepth 100000 in
set_option maxHeartbeats 1000000 in
theorem pstep3 (b m : Nat) (p : Option Addr) (q : List It) (gone : Bool) (dup : Bool) (N : Int) (v : Value) (w : World) (H : PSt w b m p q gone dup) (h9 : q.length ≤ 100000) (hq : q ≠ []) :
    Calls Tryd.prog 12 #[.pointer (some ⟨b, 0, none⟩), .agg #[.int .i64 3, .int .i64 N, v]] w fun e w' => ∃ (g ca : Nat) (x : It), e = .returned (.agg #[.slice (some ⟨g, 0, none⟩) 1 ca, .int .i64 0, .bool false, .int .i64 0]) ∧ w'.ownsRow w.heap.size 45 2 (.slice (some ⟨g, 0, none⟩) 1 ca) 1 (pit x) ∧ x ∈ q ∧ (∀ y ∈ q, x.1 ≤ y.1) ∧ PSt w' b m p q gone dup ∧ PqFr b m (obk p) (obk p) w w' := by
  have HQ := Lib.hid hq
  clear hq
  have HH := Lib.hid H
  have H9 := Lib.hid h9
  have hW : Below w.heap.size w ((w.alloc (.cells #[.int .i64 3, .int .i64 N, v] 24)).alloc (.cells #[.slice none 0 0, .int .i64 0, .bool false, .int .i64 0] 33)) := ((Below.refl _ _).alloc (Nat.le_refl _) _).alloc (by simp) _
  have HW := Lib.hid hW
  clear H h9 hW
  go_enter Tryd.func12, Tryd.ntmps12
  go_wp2_with fail
  have hK := Blk.new (w.alloc (.cells #[.int .i64 3, .int .i64 N, v] 24)) 33 #[.slice none 0 0, .int .i64 0, .bool false, .int .i64 0]
  rw [show (w.alloc (.cells #[.int .i64 3, .int .i64 N, v] 24)).heap.size = w.heap.size + 1 by simp] at hK
  have hK2 := (Blk.new w 24 #[.int .i64 3, .int .i64 N, v]).alloc (.cells #[.slice none 0 0, .int .i64 0, .bool false, .int .i64 0] 33)
  obtain ⟨wB, hwB⟩ : ∃ wB, ((w.alloc (.cells #[.int .i64 3, .int .i64 N, v] 24)).alloc (.cells #[.slice none 0 0, .int .i64 0, .bool false, .int .i64 0] 33)) = wB := ⟨_, rfl⟩
  rw [hwB] at HW hK hK2 ⊢
  have hzB : wB.heap.size = w.heap.size + 2 := by rw [← hwB]; simp
  have HK := Lib.hid hK
  have HZB := Lib.hid hzB
  have hP := HH.out.below HW.out
  have HP := Lib.hid hP
  have e1 : wB.cell? ⟨w.heap.size, 1, none⟩ = some (.int .i64 N) := hK2.cell 1 rfl
  have k0 : wB.cell? ⟨w.heap.size + 1, 0, none⟩ = some (.slice none 0 0) := hK.cell 0 rfl
  have k1 : wB.cell? ⟨w.heap.size + 1, 1, none⟩ = some (.int .i64 0) := hK.cell 1 rfl
  have k2 : wB.cell? ⟨w.heap.size + 1, 2, none⟩ = some (.bool false) := hK.cell 2 rfl
  have k3 : wB.cell? ⟨w.heap.size + 1, 3, none⟩ = some (.int .i64 0) := hK.cell 3 rfl
  have f0 := hK.free 0
  have f1 := hK.free 1
  have f2 := hK.free 2
  have f3 := hK.free 3
  obtain ⟨c, L, ks, h1, h2, h3, h4, h5⟩ := hP.h
  have hL9 : L.length ≤ 100000 := by rw [h3.length_eq]; exact H9.out
  clear hwB hK hK2 hP
  have hC := Peek_any b m p c L ks gone dup wB h1 hL9
  have hne : L.length ≠ 0 := by
    rw [h3.length_eq]
    exact fun e => HQ.out (List.eq_nil_of_length_eq_zero e)
  rw [if_neg hne] at hC
  have hml : L.getD 0 dI ∈ L := by
    have h0 : 0 < L.length := by omega
    rw [List.getD_eq_getElem?_getD, List.getElem?_eq_getElem h0]
    exact List.getElem_mem h0
  have hmq := h3.mem_iff.1 hml
  have hmin : ∀ y ∈ q, (L.getD 0 dI).1 ≤ y.1 := fun y hy => heap_least h2 y (h3.mem_iff.2 hy)
  obtain ⟨⟨x1, x2⟩, hX⟩ : ∃ X, L.getD 0 dI = X := ⟨_, rfl⟩
  rw [hX] at hC hmq hmin
  have HM := Lib.hid hmq
  have HMI := Lib.hid hmin
  have HC : Hid (Calls Tryd.prog 22 #[.pointer (some ⟨b, 0, none⟩)] wB fun e w' => e = .returned (.iface 55 (.agg #[.int .i64 x1, .int .i64 x2])) ∧ wB = w') := Lib.hid hC
  have hta := assert_pqy
  clear h1 h2 h3 h4 h5 hC hL9 hne hml hmq hmin hX
  refine HC.out.mono ?_
  rintro e w' ⟨rfl, rfl⟩
  go_wp2_with fail
  have hB := ((st4_blk HK.out rfl (.slice (some ⟨w.heap.size + 2 + 1, 0, none⟩) 1 1) (.int .i64 0) (.bool false) (.int .i64 0)).alloc (.cells #[.int .i64 x1, .int .i64 x2] 55)).alloc (.cells #[.int .i64 x1, .int .i64 x2] 45)
  have c0 := hB.cell 0 rfl
  have c1 := hB.cell 1 rfl
  have c2 := hB.cell 2 rfl
  have c3 := hB.cell 3 rfl
  have hlt := HH.out.lt
  have hz := HZB.out
  refine bodyPost_ret (v := .agg #[.slice (some ⟨w.heap.size + 2 + 1, 0, none⟩) 1 1, .int .i64 0, .bool false, .int .i64 0]) (by simp [results, Tryd.results12, go_sem, c0, c1, c2, c3]) rfl ⟨w.heap.size + 2 + 1, 1, (x1, x2), rfl, ?_, HM.out, HMI.out, ?_, ?_⟩
  · have ho := World.ownsRow_lit (base := w.heap.size) (e := 45) (size := 2) (((((wB.setCell ⟨w.heap.size + 1, 0, none⟩ (.slice (some ⟨w.heap.size + 2 + 1, 0, none⟩) 1 1)).setCell ⟨w.heap.size + 1, 1, none⟩ (.int .i64 0)).setCell ⟨w.heap.size + 1, 2, none⟩ (.bool false)).setCell ⟨w.heap.size + 1, 3, none⟩ (.int .i64 0)).alloc (.cells #[.int .i64 x1, .int .i64 x2] 55)) #[.int .i64 x1, .int .i64 x2] 1 (by simp; omega) (by unfold maxLen; omega) rfl
    have e : (((((wB.setCell ⟨w.heap.size + 1, 0, none⟩ (.slice (some ⟨w.heap.size + 2 + 1, 0, none⟩) 1 1)).setCell ⟨w.heap.size + 1, 1, none⟩ (.int .i64 0)).setCell ⟨w.heap.size + 1, 2, none⟩ (.bool false)).setCell ⟨w.heap.size + 1, 3, none⟩ (.int .i64 0)).alloc (.cells #[.int .i64 x1, .int .i64 x2] 55)).heap.size = w.heap.size + 2 + 1 := by simp [hz]
    rw [e] at ho
    exact ho
  · exact ((HP.out.grown (st4_grown _ _ _ _ _ _) (by omega) (by omega) (fun e => by have := hlt.2.2 _ e; omega)).below ((Below.refl _ _).alloc (Nat.le_refl _) _)).below ((Below.refl _ _).alloc (Nat.le_refl _) _)
  · exact (((PqFr.of_below HW.out).step (st4_grown _ _ _ _ _ _) (fun j e => by injection e with e; omega)).trans (PqFr.of_below ((Below.refl _ _).alloc (Nat.le_refl _) _))).trans (PqFr.of_below ((Below.refl _ _).alloc (Nat.le_refl _) _))

set_option maxRecDepth 100000 in
set_option maxHeartbeats 1000000 in
theorem pstep6 (b m : Nat) (p : Option Addr) (q : List It) (gone : Bool) (dup : Bool) (N : Int) (v : Value) (w : World) (H : PSt w b m p q gone dup) (h9 : q.length ≤ 100000) :
    Calls Tryd.prog 12 #[.pointer (some ⟨b, 0, none⟩), .agg #[.int .i64 6, .int .i64 N, v]] w fun e w' => e = .returned (.agg #[.slice none 0 0, .int .i64 0, .bool false, .int .i64 0]) ∧ PSt w' b m none [] true dup ∧ PqFr b m (obk p) (obk none) w w' := by
  have HH := Lib.hid H
  have H9 := Lib.hid h9
  have hW : Below w.heap.size w ((w.alloc (.cells #[.int .i64 6, .int .i64 N, v] 24)).alloc (.cells #[.slice none 0 0, .int .i64 0, .bool false, .int .i64 0] 33)) := ((Below.refl _ _).alloc (Nat.le_refl _) _).alloc (by simp) _
  have HW := Lib.hid hW
  clear H h9 hW
  go_enter Tryd.func12, Tryd.ntmps12
  go_wp2_with fail
  have hK := Blk.new (w.alloc (.cells #[.int .i64 6, .int .i64 N, v] 24)) 33 #[.slice none 0 0, .int .i64 0, .bool false, .int .i64 0]
  rw [show (w.alloc (.cells #[.int .i64 6, .int .i64 N, v] 24)).heap.size = w.heap.size + 1 by simp] at hK
  have hK2 := (Blk.new w 24 #[.int .i64 6, .int .i64 N, v]).alloc (.cells #[.slice none 0 0, .int .i64 0, .bool false, .int .i64 0] 33)
  obtain ⟨wB, hwB⟩ : ∃ wB, ((w.alloc (.cells #[.int .i64 6, .int .i64 N, v] 24)).alloc (.cells #[.slice none 0 0, .int .i64 0, .bool false, .int .i64 0] 33)) = wB := ⟨_, rfl⟩
  rw [hwB] at HW hK hK2 ⊢
  have hzB : wB.heap.size = w.heap.size + 2 := by rw [← hwB]; simp
  have HK := Lib.hid hK
  have HZB := Lib.hid hzB
  have hP := HH.out.below HW.out
  have HP := Lib.hid hP
  have e1 : wB.cell? ⟨w.heap.size, 1, none⟩ = some (.int .i64 N) := hK2.cell 1 rfl
  have k0 : wB.cell? ⟨w.heap.size + 1, 0, none⟩ = some (.slice none 0 0) := hK.cell 0 rfl
  have k1 : wB.cell? ⟨w.heap.size + 1, 1, none⟩ = some (.int .i64 0) := hK.cell 1 rfl
  have k2 : wB.cell? ⟨w.heap.size + 1, 2, none⟩ = some (.bool false) := hK.cell 2 rfl
  have k3 : wB.cell? ⟨w.heap.size + 1, 3, none⟩ = some (.int .i64 0) := hK.cell 3 rfl
  have f0 := hK.free 0
  have f1 := hK.free 1
  have f2 := hK.free 2
  have f3 := hK.free 3
  obtain ⟨c, L, ks, h1, h2, h3, h4, h5⟩ := hP.h
  have hL9 : L.length ≤ 100000 := by rw [h3.length_eq]; exact H9.out
  clear hwB hK hK2 hP
  have HC := Lib.hid (Dispose_any b m p c L ks gone dup wB h1)
  clear h1 h2 h3 h4 h5 hL9 e1 k0 k1 k2 k3 f0 f1 f2 f3
  refine HC.out.mono ?_
  rintro e w2 ⟨rfl, hq2, hf2⟩
  have hlt := HH.out.lt
  have hz := HZB.out
  have hk2 := hf2.blk HK.out (by omega) (by omega) (fun e => by have := hlt.2.2 _ e.symm; omega)
  have HP2 : Hid (PSt w2 b m none [] true dup) := Lib.hid ⟨_, _, _, hq2, (fun i _ hi => absurd hi (by simp)), List.Perm.refl _, fun h => (by cases h), fun _ => rfl⟩
  have HF2 := Lib.hid ((PqFr.of_below HW.out).trans hf2)
  have HK2 := Lib.hid hk2
  have k0 : w2.cell? ⟨w.heap.size + 1, 0, none⟩ = some (.slice none 0 0) := hk2.cell 0 rfl
  have k1 : w2.cell? ⟨w.heap.size + 1, 1, none⟩ = some (.int .i64 0) := hk2.cell 1 rfl
  have k2 : w2.cell? ⟨w.heap.size + 1, 2, none⟩ = some (.bool false) := hk2.cell 2 rfl
  have k3 : w2.cell? ⟨w.heap.size + 1, 3, none⟩ = some (.int .i64 0) := hk2.cell 3 rfl
  have f0 := hk2.free 0
  have f1 := hk2.free 1
  have f2 := hk2.free 2
  have f3 := hk2.free 3
  clear hq2 hf2 hlt hz hk2
  go_wp2_with fail
  have hB := st4_blk HK2.out rfl (.slice none 0 0) (.int .i64 0) (.bool false) (.int .i64 0)
  have c0 := hB.cell 0 rfl
  have c1 := hB.cell 1 rfl
  have c2 := hB.cell 2 rfl
  have c3 := hB.cell 3 rfl
  have hlt := HH.out.lt
  have hz := HZB.out
  refine bodyPost_ret (v := .agg #[.slice none 0 0, .int .i64 0, .bool false, .int .i64 0]) (by simp [results, Tryd.results12, go_sem, c0, c1, c2, c3]) rfl ⟨rfl, ?_, ?_⟩
  · exact HP2.out.grown (st4_grown _ _ _ _ _ _) (by omega) (by omega) (fun e => by cases e)
  · exact HF2.out.step (st4_grown _ _ _ _ _ _) (fun j e => by injection e with e; omega)
end Go.Proofs.YtepjailijekepaaDoor
