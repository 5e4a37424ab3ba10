/- Walk of impl.BLClearAll. -/
import Derived.Test.YtbcbkieebelleaaBlClear
import Derived.Outline
namespace Go.Proofs.Ytbcbkieebelleaa
set_option linter.unusedVariables false
open Go.RowKit

set_option maxRecDepth 100000 in
set_option maxHeartbeats 4000000 in
theorem blclear_any (m k : Nat) (ws : List Nat) (v : Value) (w : World)
    (hv : Fil w v m k ws) (h0 : 0 < ws.length) (hw : ws.length ≤ 1000) :
    Calls Try.prog 37 #[v] w fun e w' => ∃ v' ws', e = .returned v' ∧ OwnFil w.heap.size w' v' m k ws' ∧ ws'.length = ws.length ∧ (∀ j, Bsm.bit ws' j = false) ∧ Below w.heap.size w w' := by
  have hv0 := hv
  obtain ⟨fa, fn, fc, rfl, _⟩ := hv0
  obtain ⟨W, hW⟩ : ∃ W, W = (w.alloc (.cells #[.int .u64 (m : Int), .int .u64 (k : Int), .slice fa fn fc] 39)).alloc (.cells #[.int .u64 0, .int .u64 0, .slice none 0 0] 39) := ⟨_, rfl⟩
  have hb0 : Below w.heap.size w W := by rw [hW]; exact ((Below.refl _ _).alloc (Nat.le_refl _) _).alloc (by simp) _
  have hz0 : W.heap.size = w.heap.size + 2 := by rw [hW]; simp
  have kZ : Blk W (w.heap.size + 1) 39 #[.int .u64 0, .int .u64 0, .slice none 0 0] := by
    have h := Blk.new (w.alloc (.cells #[.int .u64 (m : Int), .int .u64 (k : Int), .slice fa fn fc] 39)) 39 #[.int .u64 0, .int .u64 0, .slice none 0 0]
    rw [← hW] at h
    simpa using h
  have HV := Lib.hid (hv.below rfl hb0)
  have HB0 := Lib.hid hb0
  have HZ0 := Lib.hid hz0
  have HKZ := Lib.hid kZ
  clear hv hb0 hz0 kZ
  subst hW
  go_enter Try.func37, Try.ntmps37
  go_wp2_with fail
  refine (filter_any _ m k ws _ HV.out h0 hw).mono ?_
  rintro e w1 ⟨f, p, cap, rfl, hbf, hb1⟩
  have HBF := Lib.hid hbf
  have HB1 := Lib.hid hb1
  clear hbf hb1
  go_wp2_with fail
  refine (flclear_any _ f p m k _ ws cap w1 HBF.out (by omega)).mono ?_
  rintro e w2 ⟨rfl, ws', hbf2, hl2, hbit, hb2, hs2⟩
  have HBF2 := Lib.hid hbf2
  have HL2 := Lib.hid hl2
  have HBIT := Lib.hid hbit
  have kz2 := (HKZ.out.below HB1.out (by have := HZ0.out; omega)).below hb2 (by have := HZ0.out; omega)
  have HK2 := Lib.hid kz2
  have HB2 : Hid (Below w.heap.size w w2) := Lib.hid ((HB0.out.trans (HB1.out.mono HB0.out.size)).trans (hb2.mono (by have := HZ0.out; omega)))
  clear hbf2 hl2 hbit hb2 hs2 kz2
  go_wp2_with fail
  refine (told_any _ f p m k _ ws' cap w2 HBF2.out (by rw [HL2.out]; omega)).mono ?_
  rintro e w3 ⟨v3, rfl, hof, hb3⟩
  have HOF := Lib.hid hof
  obtain ⟨a4, n4, c4, rfl, _⟩ := hof
  have kz3 := HK2.out.below hb3 HK2.out.lt
  have q0 : w3.cell? ⟨w.heap.size + 1, 0, none⟩ = some (.int .u64 0) := kz3.cell 0 rfl
  have q1 : w3.cell? ⟨w.heap.size + 1, 1, none⟩ = some (.int .u64 0) := kz3.cell 1 rfl
  have q2 : w3.cell? ⟨w.heap.size + 1, 2, none⟩ = some (.slice none 0 0) := kz3.cell 2 rfl
  have y0 := kz3.free 0
  have y1 := kz3.free 1
  have y2 := kz3.free 2
  have n0 := kz3.lt
  have HB3 : Hid (Below w.heap.size w w3) := Lib.hid (HB2.out.trans (hb3.mono HB2.out.size))
  have HLT : Hid (w.heap.size + 1 < w2.heap.size) := Lib.hid HK2.out.lt
  clear hb3 kz3
  go_wp2_with fail
  refine bodyPost_ret (v := .agg #[.int .u64 (m : Int), .int .u64 (k : Int), .slice a4 n4 c4]) (by simp [results, Try.results37, go_sem, *]) rfl ?_
  have hlt := HLT.out
  exact ⟨_, ws', rfl, (((HOF.out.set (by simp only []; omega) _).set (by simp only []; omega) _).set (by simp only []; omega) _).weaken (by omega), HL2.out, HBIT.out, ((HB3.out.setCell (by simp only []; omega) _).setCell (by simp only []; omega) _).setCell (by simp only []; omega) _⟩

end Go.Proofs.Ytbcbkieebelleaa
