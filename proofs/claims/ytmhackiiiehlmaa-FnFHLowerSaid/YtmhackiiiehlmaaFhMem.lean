/- Fibonacci heaps in memory: the nodes' blocks, and what a store into one of them does. -/
import Derived.Test.YtmhackiiiehlmaaFhMath
import Derived.Test.YtmhackiiiehlmaaFhFloat
import Derived.Test.YtmhackiiiehlmaaMem
import Derived.Test.YtmhackiiiehlmaaFr
namespace Go.Proofs.Ytmhackiiiehlmaa
set_option linter.unusedVariables false
open Go.RowKit Fh

abbrev fl (p : Int) : Nat := floatOfInt .f64 p
abbrev pt (o : Option Nat) : Value := .pointer (o.map fun b => ⟨b, 0, none⟩)
def fcells (s : St) (b : Nat) : Array Value := #[.int .i64 (s.dg b : Int), .bool (s.ma b), .pointer (some ⟨s.nx b, 0, none⟩), .pointer (some ⟨s.pv b, 0, none⟩), pt (s.ch b), pt (s.pa b), .float .f64 (fl (s.pr b))]
def HpAt (w : World) (s : St) (D : List Nat) : Prop := ∀ b ∈ D, Blk w b 83 (fcells s b)
theorem HpAt.c0 {w : World} {s : St} {D : List Nat} (h : HpAt w s D) {b : Nat} (hb : b ∈ D) : w.cell? ⟨b, 0, none⟩ = some (.int .i64 (s.dg b : Int)) := (h b hb).cell 0 rfl
theorem HpAt.c1 {w : World} {s : St} {D : List Nat} (h : HpAt w s D) {b : Nat} (hb : b ∈ D) : w.cell? ⟨b, 1, none⟩ = some (.bool (s.ma b)) := (h b hb).cell 1 rfl
theorem HpAt.c2 {w : World} {s : St} {D : List Nat} (h : HpAt w s D) {b : Nat} (hb : b ∈ D) : w.cell? ⟨b, 2, none⟩ = some (.pointer (some ⟨s.nx b, 0, none⟩)) := (h b hb).cell 2 rfl
theorem HpAt.c3 {w : World} {s : St} {D : List Nat} (h : HpAt w s D) {b : Nat} (hb : b ∈ D) : w.cell? ⟨b, 3, none⟩ = some (.pointer (some ⟨s.pv b, 0, none⟩)) := (h b hb).cell 3 rfl
theorem HpAt.c4 {w : World} {s : St} {D : List Nat} (h : HpAt w s D) {b : Nat} (hb : b ∈ D) : w.cell? ⟨b, 4, none⟩ = some (pt (s.ch b)) := (h b hb).cell 4 rfl
theorem HpAt.c5 {w : World} {s : St} {D : List Nat} (h : HpAt w s D) {b : Nat} (hb : b ∈ D) : w.cell? ⟨b, 5, none⟩ = some (pt (s.pa b)) := (h b hb).cell 5 rfl
theorem HpAt.c6 {w : World} {s : St} {D : List Nat} (h : HpAt w s D) {b : Nat} (hb : b ∈ D) : w.cell? ⟨b, 6, none⟩ = some (.float .f64 (fl (s.pr b))) := (h b hb).cell 6 rfl
theorem HpAt.below {w w' : World} {s : St} {D : List Nat} (h : HpAt w s D) (hb : Below w.heap.size w w') : HpAt w' s D := fun b hD => (h b hD).below hb (h b hD).lt
theorem HpAt.lt {w : World} {s : St} {D : List Nat} (h : HpAt w s D) : ∀ b ∈ D, b < w.heap.size := fun b hD => (h b hD).lt
theorem HpAt.store {w : World} {s s' : St} {D : List Nat} (h : HpAt w s D) {b i : Nat} {v : Value} (hb : b ∈ D) (hv : (fcells s b).setIfInBounds i v = fcells s' b) (ho : ∀ x, x ≠ b → fcells s' x = fcells s x) : HpAt (w.setCell ⟨b, i, none⟩ v) s' D := fun x hx => by
  by_cases e : x = b
  · subst e; rw [← hv]; exact (h x hx).set i v
  · rw [ho x e]; exact (h x hx).other e v
theorem HpAt.fr {w w' : World} {s : St} {D F F' : List Nat} (h : HpAt w s D) (hf : Fr F F' w w') (hd : ∀ b ∈ D, b ∉ F) : HpAt w' s D := fun b hD => hf.blk (h b hD) (hd b hD)
theorem HpAt.sub {w : World} {s : St} {D D' : List Nat} (h : HpAt w s D) (hd : ∀ b ∈ D', b ∈ D) : HpAt w s D' := fun b hD => h b (hd b hD)

def setN (s : St) (b v : Nat) : St := { s with nx := upd s.nx b v }
def setP (s : St) (b v : Nat) : St := { s with pv := upd s.pv b v }
def setC (s : St) (b : Nat) (v : Option Nat) : St := { s with ch := upd s.ch b v }
def setA (s : St) (b : Nat) (v : Option Nat) : St := { s with pa := upd s.pa b v }
def setD (s : St) (b v : Nat) : St := { s with dg := upd s.dg b v }
def setM (s : St) (b : Nat) (v : Bool) : St := { s with ma := upd s.ma b v }
def setK (s : St) (b : Nat) (v : Int) : St := { s with pr := upd s.pr b v }
theorem HpAt.sN {w : World} {s : St} {D : List Nat} (h : HpAt w s D) {b : Nat} (hb : b ∈ D) (v : Nat) : HpAt (w.setCell ⟨b, 2, none⟩ (.pointer (some ⟨v, 0, none⟩))) (setN s b v) D :=
  h.store hb (by simp [fcells, setN, upd_same]) (fun x hx => by simp [fcells, setN, upd_ne _ _ hx])
theorem HpAt.sP {w : World} {s : St} {D : List Nat} (h : HpAt w s D) {b : Nat} (hb : b ∈ D) (v : Nat) : HpAt (w.setCell ⟨b, 3, none⟩ (.pointer (some ⟨v, 0, none⟩))) (setP s b v) D :=
  h.store hb (by simp [fcells, setP, upd_same]) (fun x hx => by simp [fcells, setP, upd_ne _ _ hx])
theorem HpAt.sC {w : World} {s : St} {D : List Nat} (h : HpAt w s D) {b : Nat} (hb : b ∈ D) (v : Option Nat) : HpAt (w.setCell ⟨b, 4, none⟩ (pt v)) (setC s b v) D :=
  h.store hb (by simp [fcells, setC, upd_same]) (fun x hx => by simp [fcells, setC, upd_ne _ _ hx])
theorem HpAt.sA {w : World} {s : St} {D : List Nat} (h : HpAt w s D) {b : Nat} (hb : b ∈ D) (v : Option Nat) : HpAt (w.setCell ⟨b, 5, none⟩ (pt v)) (setA s b v) D :=
  h.store hb (by simp [fcells, setA, upd_same]) (fun x hx => by simp [fcells, setA, upd_ne _ _ hx])
theorem HpAt.sD {w : World} {s : St} {D : List Nat} (h : HpAt w s D) {b : Nat} (hb : b ∈ D) (v : Nat) : HpAt (w.setCell ⟨b, 0, none⟩ (.int .i64 (v : Int))) (setD s b v) D :=
  h.store hb (by simp [fcells, setD, upd_same]) (fun x hx => by simp [fcells, setD, upd_ne _ _ hx])
theorem HpAt.sM {w : World} {s : St} {D : List Nat} (h : HpAt w s D) {b : Nat} (hb : b ∈ D) (v : Bool) : HpAt (w.setCell ⟨b, 1, none⟩ (.bool v)) (setM s b v) D :=
  h.store hb (by simp [fcells, setM, upd_same]) (fun x hx => by simp [fcells, setM, upd_ne _ _ hx])
theorem HpAt.sK {w : World} {s : St} {D : List Nat} (h : HpAt w s D) {b : Nat} (hb : b ∈ D) (v : Int) : HpAt (w.setCell ⟨b, 6, none⟩ (.float .f64 (fl v))) (setK s b v) D :=
  h.store hb (by simp [fcells, setK, upd_same]) (fun x hx => by simp [fcells, setK, upd_ne _ _ hx])

/-- priorities are no greater than 2^42 -/
def Sm (p : Int) : Prop := -4398046511104 ≤ p ∧ p ≤ 4398046511104
theorem Sm.abs {p : Int} (h : Sm p) : p.natAbs < 2 ^ 53 := by unfold Sm at h; omega
theorem fl_lt {p q : Int} (hp : Sm p) (hq : Sm q) : (FloatKind.f64.format.order (fl p) (fl q) == some .lt) = decide (p < q) := by
  have h : FloatKind.f64.format.order (fl p) (fl q) = some (compare p q) := float_order p q hp.abs hq.abs
  rw [h, cmp_int]
  rcases Int.lt_trichotomy p q with h1 | h1 | h1
  · rw [if_pos h1]; simp [h1]
  · subst h1; simp
  · rw [if_neg (by omega), if_neg (by omega)]
    have : ¬ p < q := by omega
    simp [this]
theorem fl_gt {p q : Int} (hp : Sm p) (hq : Sm q) : (FloatKind.f64.format.order (fl p) (fl q) == some .gt) = decide (q < p) := by
  have h : FloatKind.f64.format.order (fl p) (fl q) = some (compare p q) := float_order p q hp.abs hq.abs
  rw [h, cmp_int]
  rcases Int.lt_trichotomy p q with h1 | h1 | h1
  · rw [if_pos h1]
    have : ¬ q < p := by omega
    simp [this]
  · subst h1; simp
  · rw [if_neg (by omega), if_neg (by omega)]; simp [h1]
theorem fl_eq {p q : Int} (hp : Sm p) (hq : Sm q) : (FloatKind.f64.format.order (fl p) (fl q) == some .eq) = decide (p = q) := by
  have h : FloatKind.f64.format.order (fl p) (fl q) = some (compare p q) := float_order p q hp.abs hq.abs
  rw [h, cmp_int]
  rcases Int.lt_trichotomy p q with h1 | h1 | h1
  · rw [if_pos h1]
    have : ¬ p = q := by omega
    simp [this]
  · subst h1; simp
  · rw [if_neg (by omega), if_neg (by omega)]
    have : ¬ p = q := by omega
    simp [this]
end Go.Proofs.Ytmhackiiiehlmaa
