/- Walks of impl.words, (*BitSet).Words, spec.BLBits, FromWithLength, impl.BSWords and impl.BSFromWithLength. -/
import Derived.Test.YtbcbkieebelleaaDoorBsFlip
import Derived.Outline
namespace Go.Proofs.YtbcbkieebelleaaDoor
set_option linter.unusedVariables false
open Go.RowKit

theorem bools_app (l : List Bool) (x : Bool) : bools (l ++ [x]) = bools l ++ [.bool x] := by simp [bools]
theorem shr_bit (X s : Nat) (hX : X < 18446744073709551616) : (bits BinOp.and IntKind.u64 ((X : Int) / 2 ^ s) 1 == 1) = X.testBit s := by
  have h1 : ((X : Int) / 2 ^ s) = ((X / 2 ^ s : Nat) : Int) := by push_cast; rfl
  have h2 : X / 2 ^ s < 18446744073709551616 := Nat.lt_of_le_of_lt (Nat.div_le_self _ _) hX
  rw [h1]
  have := u64_and_nat (X / 2 ^ s) 1 (by omega) (by omega)
  rw [show ((1 : Nat) : Int) = 1 from rfl] at this
  rw [this, Nat.and_one_is_mod, Nat.testBit_eq_decide_div_mod_eq]
  generalize X / 2 ^ s = Y
  rw [Bool.eq_iff_iff, beq_iff_eq, decide_eq_true_eq]
  omega
set_option maxRecDepth 100000 in
theorem run_slice_to (a : Option Addr) (n cap m : Nat) (k : IntKind) (h : Int) (hh : h = (m : Int)) (hm : m ≤ cap) (W : World) :
    (Instr.slice 46 (.slice a n cap) none (some (.int k h)) none).run Tryd.prog W = .ok (.slice a m cap) W := by
  subst hh
  rw [run_slice_h (P := Tryd.prog) (t := 46) (a := a) (len := n) (cap := cap) (ht := Tryd.underlying46) (kh := k) (h := (m : Int)) (h0 := by omega) (h2 := by omega)]
  have e0 : ∀ p : Addr, p.add 0 = p := fun p => by cases p; simp [Addr.add]
  have es : ((sizeOf (Tryd.prog.elem 46)).run Tryd.prog W) = .ok 1 W := by kernel_rfl
  rw [es]
  simp [Result.andThen, sliced]
  intro _
  cases a <;> simp [e0]
theorem Bsm.posn_past (bs : List Bool) (m : Nat) : Bsm.posn bs (bs.length + m) = Bsm.pos bs := by
  induction m with
  | zero => rfl
  | succ m ih =>
    rw [← Nat.add_assoc]
    simp only [Bsm.posn]
    rw [ih, Bsm.getD_out bs (bs.length + m) (by omega)]
    simp
theorem Bsm.pos_ext (bs cs : List Bool) (h : ∀ j, bs.getD j false = cs.getD j false) : Bsm.pos bs = Bsm.pos cs := by
  rw [← Bsm.posn_past bs cs.length, ← Bsm.posn_past cs bs.length, Nat.add_comm cs.length]
  exact Bsm.posn_congr _ _ _ fun j _ => h j
theorem bitsOf_succ (ws : List Nat) (i : Nat) : Bsm.bitsOf ws (i + 1) = Bsm.bitsOf ws i ++ [Bsm.bit ws i] := by
  unfold Bsm.bitsOf; rw [List.range_succ, List.map_append]; rfl

theorem ownsRow_below {w w' : World} {B : Nat} {e : TypeId} {size : Nat} {v : Value} {n : Nat} {xs : List Value} (h : w.ownsRow B e size v n xs) (hb : Below w.heap.size w w') : w'.ownsRow B e size v n xs :=
  h.kept (only_of_below hb none) (by cases v.ownBlock <;> simp)

theorem list_yes (v u : Value) (xs ys : List Nat) (w : World) (hv : Sl w v (u64s xs)) (hu : Sl w u (u64s ys)) (h : xs = ys) :
    Calls Tryd.prog 8 #[v, u] w fun e w' => e = .returned (.bool true) ∧ Below w.heap.size w w' :=
  (list_any v u xs ys w hv hu true (by simpa using h)).mono fun e w' ⟨he, nq, hw⟩ => ⟨he, by rw [hw]; exact below_drewN (Below.refl _ _) nq⟩

theorem pos_bitsOf (ws : List Nat) (bs : List Bool) (M : Nat) (h : ∀ j, Bsm.bit ws j = bs.getD j false) (hM : bs.length ≤ M) : Bsm.pos (Bsm.bitsOf ws M) = Bsm.pos bs := by
  apply Bsm.pos_ext
  intro j
  rw [Bsm.bitsOf_get, h]
  by_cases hj : j < M
  · simp [hj]
  · rw [Bsm.getD_out bs j (by omega)]; simp
end Go.Proofs.YtbcbkieebelleaaDoor
