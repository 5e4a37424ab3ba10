/- The hash of package bloom: each function gives a value that depends on its arguments alone. -/
import Derived.Test.YtbcbkieebelleaaBlSame
import Derived.Outline
namespace Go.Proofs.Ytbcbkieebelleaa
set_option linter.unusedVariables false
open Go.RowKit

theorem leave_then {next : Act → World → Prop} {Q : Exit → Act → World → Prop} {i : Nat} {a : Act} {w : World} (h : Q (.exit i) a w) : Exit.then next Q (.exit i) a w := h
theorem leave_eq {Q : Exit → Act → World → Prop} {i : Nat} {a : Act} {w : World} (h : Q .normal a w) : Exit.inBlock i Q (.exit i) a w := by
  show (if i = i then Q .normal a w else Q (.exit i) a w)
  rw [if_pos rfl]; exact h
theorem leave_ne {Q : Exit → Act → World → Prop} {i j : Nat} {a : Act} {w : World} (hne : i ≠ j) (h : Q (.exit i) a w) : Exit.inBlock j Q (.exit i) a w := by
  show (if i = j then Q .normal a w else Q (.exit i) a w)
  rw [if_neg hne]; exact h
theorem norm_then {next : Act → World → Prop} {Q : Exit → Act → World → Prop} {a : Act} {w : World} (h : next a w) : Exit.then next Q .normal a w := h
theorem norm_in {Q : Exit → Act → World → Prop} {i : Nat} {a : Act} {w : World} (h : Q .normal a w) : Exit.inBlock i Q .normal a w := h

set_option maxHeartbeats 400000 in
theorem fmix_ex : ∃ F : Int → Int, ∀ (k : Int) (w : World),
    Calls Try.prog 92 #[.int .u64 k] w fun e w' => e = .returned (.int .u64 (F k)) ∧ w = w' := by
  apply Exists.intro
  intro k w
  go_enter Try.func92, Try.ntmps92
  go_wp2
  go_ret
  exact ⟨rfl, rfl⟩

set_option maxHeartbeats 400000 in
theorem rot27_ex : ∃ F : Int → Int, ∀ (x : Int) (w : World),
    Calls Try.prog 91 #[.int .u64 x, .int .i64 27] w fun e w' => e = .returned (.int .u64 (F x)) ∧ w = w' := by
  apply Exists.intro
  intro x w
  have hb : bits BinOp.and .u64 27 63 = 27 := by decide
  have hsub : IntKind.u64.wrap ((64 : Int) - 27) = 37 := by decide
  go_enter Try.func91, Try.ntmps91
  go_wp2
  go_ret
  exact ⟨rfl, rfl⟩

set_option maxHeartbeats 400000 in
theorem rot31_ex : ∃ F : Int → Int, ∀ (x : Int) (w : World),
    Calls Try.prog 91 #[.int .u64 x, .int .i64 31] w fun e w' => e = .returned (.int .u64 (F x)) ∧ w = w' := by
  apply Exists.intro
  intro x w
  have hb : bits BinOp.and .u64 31 63 = 31 := by decide
  have hsub : IntKind.u64.wrap ((64 : Int) - 31) = 33 := by decide
  go_enter Try.func91, Try.ntmps91
  go_wp2
  go_ret
  exact ⟨rfl, rfl⟩

set_option maxHeartbeats 400000 in
theorem rot33_ex : ∃ F : Int → Int, ∀ (x : Int) (w : World),
    Calls Try.prog 91 #[.int .u64 x, .int .i64 33] w fun e w' => e = .returned (.int .u64 (F x)) ∧ w = w' := by
  apply Exists.intro
  intro x w
  have hb : bits BinOp.and .u64 33 63 = 33 := by decide
  have hsub : IntKind.u64.wrap ((64 : Int) - 33) = 31 := by decide
  go_enter Try.func91, Try.ntmps91
  go_wp2
  go_ret
  exact ⟨rfl, rfl⟩

/-- block d is a digest -/
abbrev Dg (w : World) (d : Nat) (h1 h2 : Int) : Prop := Blk w d 116 #[.int .u64 h1, .int .u64 h2]

set_option maxRecDepth 100000 in
set_option maxHeartbeats 1000000 in
theorem bw_ex : ∃ G1 G2 : Int → Int → Int → Int → Int, ∀ (B d : Nat) (h1 h2 k1 k2 : Int) (w : World), Dg w d h1 h2 → B ≤ d →
    Calls Try.prog 90 #[.pointer (some ⟨d, 0, none⟩), .int .u64 k1, .int .u64 k2] w fun e w' => e = .returned (.tuple #[]) ∧
      Dg w' d (G1 h1 h2 k1 k2) (G2 h1 h2 k1 k2) ∧ Below B w w' ∧ w'.heap.size = w.heap.size := by
  obtain ⟨R27, hR27⟩ := rot27_ex
  obtain ⟨R31, hR31⟩ := rot31_ex
  obtain ⟨R33, hR33⟩ := rot33_ex
  apply Exists.intro
  apply Exists.intro
  intro B d h1 h2 k1 k2 w hd hB
  have c0 : w.cell? ⟨d, 0, none⟩ = some (.int .u64 h1) := hd.cell 0 rfl
  have c1 : w.cell? ⟨d, 1, none⟩ = some (.int .u64 h2) := hd.cell 1 rfl
  have HD := Lib.hid hd
  have HB := Lib.hid hB
  clear hd hB
  go_enter Try.func90, Try.ntmps90
  go_wp2_with fail
  go_quiet (fail)
  have hdw := HD.out.drewN nq
  have hbw : Below B w (w.drewN nq) := below_drewN (Below.refl _ _) nq
  have hsz : (w.drewN nq).heap.size = w.heap.size := rfl
  obtain ⟨wB, hwB⟩ : ∃ wB, wB = w.drewN nq := ⟨_, rfl⟩
  rw [← hwB] at hdw hbw hsz ⊢
  clear hwB c0 c1
  have HDW := Lib.hid hdw
  have HBW := Lib.hid hbw
  have HSZ := Lib.hid hsz
  clear hdw hbw hsz
  go_wp2_with fail
  refine (hR31 _ _).mono ?_
  rintro e w' ⟨rfl, rfl⟩
  go_wp2_with fail
  refine (hR27 _ _).mono ?_
  rintro e w' ⟨rfl, rfl⟩
  go_wp2_with fail
  refine (hR33 _ _).mono ?_
  rintro e w' ⟨rfl, rfl⟩
  go_wp2_with fail
  refine (hR31 _ _).mono ?_
  rintro e w' ⟨rfl, rfl⟩
  have c0 := HDW.out.cell 0 rfl
  have c1 := HDW.out.cell 1 rfl
  have f0 := HDW.out.free 0
  have f1 := HDW.out.free 1
  go_wp2_with fail
  refine bodyPost_end (results_none rfl _ _ _) rfl ?_
  refine ⟨rfl, (HDW.out.set 0 _).set 1 _, (HBW.out.setCell (p := ⟨d, 0, none⟩) HB.out _).setCell (p := ⟨d, 1, none⟩) HB.out _, ?_⟩
  rw [← HSZ.out]
  simp

set_option maxRecDepth 100000 in
set_option maxHeartbeats 1000000 in
theorem u64_ex : ∃ U : Int → Int → Int → Int → Int → Int → Int → Int → Int, ∀ (x0 x1 x2 x3 x4 x5 x6 x7 : Int) (b o cap : Nat) (w : World), w.cell? ⟨b, o, none⟩ = some (.int .u8 x0) → w.cell? ⟨b, o + 1, none⟩ = some (.int .u8 x1) → w.cell? ⟨b, o + 2, none⟩ = some (.int .u8 x2) → w.cell? ⟨b, o + 3, none⟩ = some (.int .u8 x3) → w.cell? ⟨b, o + 4, none⟩ = some (.int .u8 x4) → w.cell? ⟨b, o + 5, none⟩ = some (.int .u8 x5) → w.cell? ⟨b, o + 6, none⟩ = some (.int .u8 x6) → w.cell? ⟨b, o + 7, none⟩ = some (.int .u8 x7) →
    Calls Try.prog 88 #[.agg #[], .slice (some ⟨b, o, none⟩) 8 cap] w fun e w' => e = .returned (.int .u64 (U x0 x1 x2 x3 x4 x5 x6 x7)) ∧ Below w.heap.size w w' := by
  apply Exists.intro
  intro x0 x1 x2 x3 x4 x5 x6 x7 b o cap w h0 h1 h2 h3 h4 h5 h6 h7
  have hlt := World.block_lt_of_cell? w _ h0
  have hb0 : Below w.heap.size w (w.alloc (.cells #[] 126)) := (Below.refl _ _).alloc (Nat.le_refl _) _
  have e0 := (hb0.cell (p := ⟨b, o, none⟩) hlt).trans h0
  have e1 := (hb0.cell (p := ⟨b, o + 1, none⟩) hlt).trans h1
  have e2 := (hb0.cell (p := ⟨b, o + 2, none⟩) hlt).trans h2
  have e3 := (hb0.cell (p := ⟨b, o + 3, none⟩) hlt).trans h3
  have e4 := (hb0.cell (p := ⟨b, o + 4, none⟩) hlt).trans h4
  have e5 := (hb0.cell (p := ⟨b, o + 5, none⟩) hlt).trans h5
  have e6 := (hb0.cell (p := ⟨b, o + 6, none⟩) hlt).trans h6
  have e7 := (hb0.cell (p := ⟨b, o + 7, none⟩) hlt).trans h7
  have HB := Lib.hid hb0
  clear hb0 h0 h1 h2 h3 h4 h5 h6 h7
  go_enter Try.func88, Try.ntmps88
  go_wp2_with fail
  go_quiet (fail)
  go_wp2_with fail
  go_ret
  exact ⟨rfl, below_drewN HB.out _⟩

set_option maxRecDepth 100000 in
set_option maxHeartbeats 1000000 in
theorem u32_ex : ∃ U : Int → Int → Int → Int → Int, ∀ (x0 x1 x2 x3 : Int) (b o cap : Nat) (w : World), w.cell? ⟨b, o, none⟩ = some (.int .u8 x0) → w.cell? ⟨b, o + 1, none⟩ = some (.int .u8 x1) → w.cell? ⟨b, o + 2, none⟩ = some (.int .u8 x2) → w.cell? ⟨b, o + 3, none⟩ = some (.int .u8 x3) →
    Calls Try.prog 89 #[.agg #[], .slice (some ⟨b, o, none⟩) 4 cap] w fun e w' => e = .returned (.int .u32 (U x0 x1 x2 x3)) ∧ Below w.heap.size w w' := by
  apply Exists.intro
  intro x0 x1 x2 x3 b o cap w h0 h1 h2 h3
  have hlt := World.block_lt_of_cell? w _ h0
  have hb0 : Below w.heap.size w (w.alloc (.cells #[] 126)) := (Below.refl _ _).alloc (Nat.le_refl _) _
  have e0 := (hb0.cell (p := ⟨b, o, none⟩) hlt).trans h0
  have e1 := (hb0.cell (p := ⟨b, o + 1, none⟩) hlt).trans h1
  have e2 := (hb0.cell (p := ⟨b, o + 2, none⟩) hlt).trans h2
  have e3 := (hb0.cell (p := ⟨b, o + 3, none⟩) hlt).trans h3
  have HB := Lib.hid hb0
  clear hb0 h0 h1 h2 h3
  go_enter Try.func89, Try.ntmps89
  go_wp2_with fail
  go_quiet (fail)
  go_wp2_with fail
  go_ret
  exact ⟨rfl, below_drewN HB.out _⟩

end Go.Proofs.Ytbcbkieebelleaa
