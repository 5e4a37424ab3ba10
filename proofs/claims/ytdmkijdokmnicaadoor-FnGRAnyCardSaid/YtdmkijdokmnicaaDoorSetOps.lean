/- Walks of package set: Add, Remove, Len, All, Exists, Flatten. -/
import Derived.Test.YtdmkijdokmnicaaDoorSet
namespace Go.Proofs.YtdmkijdokmnicaaDoor
set_option linter.unusedVariables false
open Go.RowKit

/-- w' is w with new blocks and writes to blocks s and b alone -/
structure Only2 (s b : Nat) (w w' : World) : Prop where
  os : w'.os = w.os
  tape : w'.tape = w.tape
  output : w'.output = w.output
  size : w.heap.size ≤ w'.heap.size
  block : ∀ k, k < w.heap.size → k ≠ s → k ≠ b → w'.heap[k]? = w.heap[k]?
theorem Only2.refl (s b : Nat) (w : World) : Only2 s b w w := ⟨rfl, rfl, rfl, Nat.le_refl _, fun _ _ _ _ => rfl⟩
theorem Only2.trans {s b : Nat} {u v w : World} (h : Only2 s b u v) (k : Only2 s b v w) : Only2 s b u w :=
  ⟨k.os.trans h.os, k.tape.trans h.tape, k.output.trans h.output, Nat.le_trans h.size k.size, fun i hi h1 h2 => (k.block i (Nat.lt_of_lt_of_le hi h.size) h1 h2).trans (h.block i hi h1 h2)⟩
theorem Only2.of_below {s b : Nat} {w w' : World} (h : Below w.heap.size w w') : Only2 s b w w' := ⟨h.os, h.tape, h.output, h.size, fun k hk _ _ => h.block k hk⟩
theorem Only2.of_grown {s b : Nat} {w w' : World} {row : Option Nat} (h : w.grownBy w' row) (hr : ∀ k, row = some k → k = s ∨ k = b ∨ w.heap.size ≤ k) : Only2 s b w w' :=
  ⟨h.os, h.tape, h.output, h.size, fun k hk h1 h2 => h.block k hk (fun e => by rcases hr k e.symm with h | h | h <;> omega)⟩
theorem Only2.below {s b B : Nat} {w w' : World} (h : Only2 s b w w') (hs : B ≤ s) (hb : B ≤ b) (hw : B ≤ w.heap.size) : Below B w w' :=
  ⟨h.os, h.tape, h.output, h.size, fun k hk => h.block k (by omega) (by omega) (by omega)⟩
theorem Only2.store {s b : Nat} (w : World) {a : Addr} (ha : a.block = s) (u : Value) : Only2 s b w (w.setCell a u) :=
  Only2.of_grown (row := some s) ⟨rfl, rfl, rfl, by simp, fun k hk hne => Below.heap_setCell w a u k (fun e => hne (by rw [e, ha]))⟩ (fun k e => .inl (by injection e with e; exact e.symm))
theorem Only2.owns {s b : Nat} {w w' : World} (h : Only2 s b w w') {B : Nat} {e : TypeId} {size : Nat} {v : Value} {n : Nat} {xs : List Value} (ho : w.ownsRow B e size v n xs) (hv : ∀ k, v.ownBlock = some k → k ≠ s ∧ k ≠ b) : w'.ownsRow B e size v n xs := by
  refine ⟨ho.1, ?_⟩
  have hl := ho.lt
  rcases ho.2 with h0 | ⟨g, cap, cur, rfl, hbg, hg, r⟩
  · exact .inl h0
  · exact .inr ⟨g, cap, cur, rfl, hbg, (h.block g (hl g rfl).2 (hv g rfl).1 (hv g rfl).2).trans hg, r⟩
theorem Only2.blk {s b : Nat} {w w' : World} (h : Only2 s b w w') {c : Nat} {t : TypeId} {cs : Array Value} (hk : Blk w c t cs) (h1 : c ≠ s) (h2 : c ≠ b) : Blk w' c t cs :=
  (h.block c hk.lt h1 h2).trans hk

/-- the cells of a slice that lies apart from the set's blocks -/
def Apart (s b : Nat) (v : Value) : Prop := ∀ p m c, v = .slice (some p) m c → p.block ≠ s ∧ p.block ≠ b

theorem zero_unit (w : World) : (zeroValue 65).run Tryd.prog w = .ok (.agg #[]) w := by kernel_rfl

end Go.Proofs.YtdmkijdokmnicaaDoor
