/- What impl.avSaid does, and what its walk stands on. -/
import Derived.Test.YtidekgmpbcnfmaaAvImpl
namespace Go.Proofs.Ytidekgmpbcnfmaa
set_option linter.unusedVariables false
open Go.RowKit Avm

def oent : Option (Int × Int) → Value
  | none => Value.nilIface
  | some e => .iface 99 (.agg #[.int .i64 e.1, .int .i64 e.2])
def bvs (l : List Bool) : List Value := l.map Value.bool
theorem info_ave : (Try.prog.info? 25).map (fun i => (i.zero, i.size, i.bytes)) = some (some (.agg #[.int .i64 0, .int .i64 0]), 2, 16) := by kernel_rfl
theorem info_boo : (Try.prog.info? 4).map (fun i => (i.zero, i.size, i.bytes)) = some (some (.bool false), 1, 1) := by kernel_rfl
theorem asok_some (v : Value) (w : World) : (Instr.typeAssert (.iface 99 v) 92 99 true).run Try.prog w = .ok (.tuple #[v, .bool true]) w := by kernel_rfl
theorem asok_nil (w : World) : (Instr.typeAssert Value.nilIface 92 99 true).run Try.prog w = .ok (.tuple #[.agg #[.int .i64 0, .int .i64 0], .bool false]) w := by kernel_rfl
def oget (o : Option (Int × Int)) : Int × Int := o.getD (0, 0)

theorem rw_one (w : World) (a b : Value) (e : TypeId) : Rw 2 (w.alloc (.cells #[a, b] e)) (.slice (some ⟨w.heap.size, 0, none⟩) 1 1) [[a, b]] := by
  refine ⟨_, 1, 1, rfl, rfl, Nat.le_refl _, by decide, fun _ => ⟨w.heap.size, 0, rfl, fun i row hi j u hu => ?_⟩⟩
  have hi0 : i = 0 := by
    cases i with
    | zero => rfl
    | succ i => simp at hi
  subst hi0
  injection hi with hi
  subst hi
  rw [Nat.zero_mul, Nat.zero_add, Nat.zero_add]
  refine (Blk.new w e #[a, b]).cell j ?_
  rw [← Array.getElem?_toList]; exact hu
theorem rw_oneE (w : World) (b : Nat) (x y : Value) (e : TypeId) (hb : b = w.heap.size) : Rw 2 (w.alloc (.cells #[x, y] e)) (.slice (some ⟨b, 0, none⟩) 1 1) [[x, y]] := by subst hb; exact rw_one w x y e
theorem Rw.drew' {S : Nat} {w : World} {v : Value} {rows : List (List Value)} (h : Rw S w v rows) : Rw S w.drew v rows := h
theorem Rw.alloc' {S : Nat} {w : World} {v : Value} {rows : List (List Value)} (h : Rw S w v rows) (o : Obj) : Rw S (w.alloc o) v rows := h.below rfl ((Below.refl _ _).alloc (Nat.le_refl _) _)
theorem Rw.fr1 {S : Nat} {w w' : World} {F F' : List Nat} {b off n c : Nat} {rows : List (List Value)} (h : Rw S w (.slice (some ⟨b, off, none⟩) n c) rows) (hf : Fr F F' w w') (hb : b ∉ F) : Rw S w' (.slice (some ⟨b, off, none⟩) n c) rows := by
  obtain ⟨a, n', c', e, h1, h2, h3, h4⟩ := h
  injection e with e1 e2 e3
  subst e1 e2 e3
  refine ⟨_, _, _, rfl, h1, h2, h3, fun h0 => ?_⟩
  obtain ⟨b', off', e, h5⟩ := h4 h0
  injection e with e
  injection e with e1 e2
  subst e1 e2
  exact ⟨_, _, rfl, fun i row hi j u hu => hf.cell (h5 i row hi j u hu) hb⟩
theorem sl_oneE (w : World) (b : Nat) (x : Value) (e : TypeId) (hb : b = w.heap.size) : Sl (w.alloc (.cells #[x] e)) (.slice (some ⟨b, 0, none⟩) 1 1) [x] := by subst hb; exact sl_new w x e
theorem Sl.drew' {w : World} {v : Value} {xs : List Value} (h : Sl w v xs) : Sl w.drew v xs := h
theorem Sl.alloc' {w : World} {v : Value} {xs : List Value} (h : Sl w v xs) (o : Obj) : Sl (w.alloc o) v xs := h.below rfl ((Below.refl _ _).alloc (Nat.le_refl _) _)
theorem Sl.fr1 {w w' : World} {F F' : List Nat} {b off n c : Nat} {xs : List Value} (h : Sl w (.slice (some ⟨b, off, none⟩) n c) xs) (hf : Fr F F' w w') (hb : b ∉ F) : Sl w' (.slice (some ⟨b, off, none⟩) n c) xs := by
  obtain ⟨a, n', c', e, h1, h2, h3, h4⟩ := h
  injection e with e1 e2 e3
  subst e1 e2 e3
  refine ⟨_, _, _, rfl, h1, h2, h3, fun h0 => ?_⟩
  obtain ⟨b', off', e, h5⟩ := h4 h0
  injection e with e
  injection e with e1 e2
  subst e1 e2
  exact ⟨_, _, rfl, fun i u hu => hf.cell (h5 i u hu) hb⟩
theorem rw_oneD (w : World) (a b : Value) (e : TypeId) : Rw 2 (w.alloc (.cells #[a, b] e)).drew (.slice (some ⟨w.heap.size, 0, none⟩) 1 1) [[a, b]] := (rw_one w a b e).below rfl (Below.refl _ _).drew
def SaidLoop2 (os : List (Option (Int × Int))) (L : Nat) (n X : Nat) (w : World) (k : Nat) (idx : Value) (wr : World) : Prop :=
  ∃ (j : Nat) (q1 : Option Addr) (c1 : Nat) (q2 : Option Addr) (c2 : Nat), idx = .int .i64 (j : Int) ∧ j + k = n ∧ Blk wr X 36 #[.int .i64 (L : Int), .slice q1 j c1, .slice q2 j c2] ∧
    wr.ownsRow w.heap.size 25 2 (.slice q1 j c1) j (aes ((os.take j).map oget)).flatten ∧ wr.ownsRow w.heap.size 4 1 (.slice q2 j c2) j (bvs ((os.take j).map Option.isSome)) ∧
    Blk wr w.heap.size 36 #[.int .i64 0, .slice none 0 0, .slice none 0 0] ∧ Below w.heap.size w wr

/-- what avSaid does -/
def AvSaidC : Prop := ∀ (i : Nat) (t : T) (v : Value) (os : List (Option (Int × Int))) (w : World) (h : Tr w i t) (hv : Sl w v (os.map oent)) (hn : os.length ≤ 1000) (hL : t.toL.length ≤ 1000000),
    Calls Try.prog 30 #[.pointer (some ⟨i, 0, none⟩), v] w fun e w' => ∃ q1 c1 q2 c2, e = .returned (.agg #[.int .i64 (t.toL.length : Int), .slice q1 os.length c1, .slice q2 os.length c2]) ∧
      w'.ownsRow w.heap.size 25 2 (.slice q1 os.length c1) os.length (aes (os.map oget)).flatten ∧ w'.ownsRow w.heap.size 4 1 (.slice q2 os.length c2) os.length (bvs (os.map Option.isSome)) ∧ Below w.heap.size w w'
end Go.Proofs.Ytidekgmpbcnfmaa
