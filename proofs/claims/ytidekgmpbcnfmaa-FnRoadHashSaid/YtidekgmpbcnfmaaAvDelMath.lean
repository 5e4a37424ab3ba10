/- Deletion from an AVL tree as plain data: heights, paths whose nodes were copied, balances on the way up. -/
import Derived.Test.YtidekgmpbcnfmaaAvMath
import Derived.Test.YtidekgmpbcnfmaaRows
namespace Go.Proofs.Ytidekgmpbcnfmaa.Avm
set_option linter.unusedVariables false

theorem tsize (t : T) (h : V t) : 2 ^ (t.h / 2) ≤ t.toL.length + 1 := by
  suffices H : ∀ n t, t.h = n → V t → 2 ^ (n / 2) ≤ t.toL.length + 1 from H _ t rfl h
  intro n
  induction n using Nat.strongRecOn with
  | _ n ih =>
    intro t hn hv
    cases t with
    | nil => simp [T.h] at hn; subst hn; simp
    | nd b bal l k v r =>
      obtain ⟨h1, h2, h3, h4, h5⟩ := hv
      simp only [T.h] at hn
      by_cases hs : n = 1
      · subst hs; simp [T.toL]
      · have hl := ih l.h (by omega) l rfl h4
        have hr := ih r.h (by omega) r rfl h5
        have e1 : n / 2 = (n - 2) / 2 + 1 := by omega
        have m1 : 2 ^ ((n - 2) / 2) ≤ 2 ^ (l.h / 2) := Nat.pow_le_pow_right (by omega) (by omega)
        have m2 : 2 ^ ((n - 2) / 2) ≤ 2 ^ (r.h / 2) := Nat.pow_le_pow_right (by omega) (by omega)
        rw [e1, Nat.pow_succ]
        simp only [T.toL, List.length_append, List.length_cons]
        omega
theorem h_small (t : T) (h : V t) (hn : t.toL.length ≤ 200000) : t.h ≤ 40 := by
  have h1 := tsize t h
  rcases Nat.lt_or_ge 40 t.h with h2 | h2
  · have : 2 ^ 20 ≤ 2 ^ (t.h / 2) := Nat.pow_le_pow_right (by omega) (by omega)
    have h3 : (2 : Nat) ^ 20 = 1048576 := by decide
    omega
  · exact h2
theorem hgt_len (fs : List Fm) (h : Nat) : fs.length + h ≤ hgt fs h := by
  induction fs with
  | nil => simp [hgt]
  | cons f fs ih =>
    simp only [List.length_cons, hgt]
    omega

/-- two paths that differ in their blocks alone -/
def Same : List Fm → List Fm → Prop
  | [], [] => True
  | f :: fs, g :: gs => f.bal = g.bal ∧ f.d = g.d ∧ f.sib = g.sib ∧ f.k = g.k ∧ f.v = g.v ∧ Same fs gs
  | _, _ => False
theorem Same.refl : ∀ fs : List Fm, Same fs fs
  | [] => trivial
  | f :: fs => ⟨rfl, rfl, rfl, rfl, rfl, Same.refl fs⟩
theorem Same.len : ∀ {fs gs : List Fm}, Same fs gs → fs.length = gs.length
  | [], [], _ => rfl
  | f :: fs, g :: gs, ⟨_, _, _, _, _, h⟩ => by simp [Same.len h]
  | [], _ :: _, h => h.elim
  | _ :: _, [], h => h.elim
theorem Same.lefts : ∀ {fs gs : List Fm}, Same fs gs → lefts fs = lefts gs
  | [], [], _ => rfl
  | f :: fs, g :: gs, ⟨_, h2, h3, h4, h5, h⟩ => by simp only [Avm.lefts, h2, h3, h4, h5, Same.lefts h]
  | [], _ :: _, h => h.elim
  | _ :: _, [], h => h.elim
theorem Same.rights : ∀ {fs gs : List Fm}, Same fs gs → rights fs = rights gs
  | [], [], _ => rfl
  | f :: fs, g :: gs, ⟨_, h2, h3, h4, h5, h⟩ => by simp only [Avm.rights, h2, h3, h4, h5, Same.rights h]
  | [], _ :: _, h => h.elim
  | _ :: _, [], h => h.elim
theorem Same.hgt : ∀ {fs gs : List Fm} {h : Nat}, Same fs gs → hgt fs h = hgt gs h
  | [], [], _, _ => rfl
  | f :: fs, g :: gs, _, ⟨_, h2, h3, h4, h5, h⟩ => by simp only [Avm.hgt, h3, Same.hgt h]
  | [], _ :: _, _, h => h.elim
  | _ :: _, [], _, h => h.elim
theorem Same.vc : ∀ {fs gs : List Fm} {h : Nat}, Same fs gs → (VC fs h ↔ VC gs h)
  | [], [], _, _ => Iff.rfl
  | f :: fs, g :: gs, _, ⟨h1, h2, h3, h4, h5, h⟩ => by simp only [VC, h1, h2, h3, Same.hgt h, Same.vc h]
  | [], _ :: _, _, h => h.elim
  | _ :: _, [], _, h => h.elim
theorem Same.trans : ∀ {fs gs hs : List Fm}, Same fs gs → Same gs hs → Same fs hs
  | [], [], [], _, _ => trivial
  | f :: fs, g :: gs, h :: hs, ⟨a1, a2, a3, a4, a5, a⟩, ⟨b1, b2, b3, b4, b5, b⟩ => ⟨a1.trans b1, a2.trans b2, a3.trans b3, a4.trans b4, a5.trans b5, Same.trans a b⟩
  | [], _ :: _, _, h, _ => h.elim
  | _ :: _, [], _, h, _ => h.elim
  | [], [], _ :: _, _, h => h.elim
  | _ :: _, _ :: _, [], _, h => h.elim
theorem same_mid (p q : List Fm) (f : Fm) (c : Nat) : Same (p ++ { f with b := c } :: q) (p ++ f :: q) := by
  induction p with
  | nil => exact ⟨rfl, rfl, rfl, rfl, rfl, Same.refl q⟩
  | cons g p ih => exact ⟨rfl, rfl, rfl, rfl, rfl, ih⟩

/-- a frame whose hole has lost a level -/
def Fm.low (f : Fm) : Fm := { f with bal := f.bal + if f.d then -1 else 1 }
theorem low_case (f : Fm) (t : T) (hv : VC [f] (t.h + 1)) (vt : V t) :
    (f.low.bal = 0 ∧ V (f.low.put t) ∧ (f.low.put t).h + 1 = hgt [f] (t.h + 1)) ∨
    ((f.low.bal = 1 ∨ f.low.bal = -1) ∧ V (f.low.put t) ∧ (f.low.put t).h = hgt [f] (t.h + 1)) ∨
    (f.low.bal = (if f.d then -2 else 2) ∧ f.sib.h = t.h + 2 ∧ V f.sib ∧ hgt [f] (t.h + 1) = f.sib.h + 1) := by
  obtain ⟨h1, h2, h3, h4, -⟩ := hv
  have hb : f.low.bal = f.bal + if f.d then -1 else 1 := rfl
  have hp : (f.low.put t).h = max f.sib.h t.h + 1 := put_h f.low t
  have hV : V (f.low.put t) ↔ _ := V_put f.low t
  have hg : hgt [f] (t.h + 1) = max f.sib.h (t.h + 1) + 1 := rfl
  have e1 : hgt [] (t.h + 1) = t.h + 1 := rfl
  rw [e1] at h1
  rw [hV, hb, hp, hg]
  have es : f.low.sib = f.sib := rfl
  have ed : f.low.d = f.d := rfl
  rw [es, ed]
  cases hd : f.d <;> rw [hd] at h1 <;> simp only [if_true, if_false, Bool.false_eq_true] at h1 ⊢
  · have : f.bal + 1 = 0 ∨ f.bal + 1 = 1 ∨ f.bal + 1 = 2 := by omega
    rcases this with h | h | h
    · left; exact ⟨h, ⟨by omega, by omega, by omega, h4, vt⟩, by omega⟩
    · right; left; exact ⟨.inl h, ⟨by omega, by omega, by omega, h4, vt⟩, by omega⟩
    · right; right; exact ⟨h, by omega, h4, by omega⟩
  · have : f.bal + -1 = 0 ∨ f.bal + -1 = -1 ∨ f.bal + -1 = -2 := by omega
    rcases this with h | h | h
    · left; exact ⟨h, ⟨by omega, by omega, by omega, h4, vt⟩, by omega⟩
    · right; left; exact ⟨.inr h, ⟨by omega, by omega, by omega, h4, vt⟩, by omega⟩
    · right; right; exact ⟨h, by omega, h4, by omega⟩

/-- the way to the leftmost node -/
theorem VC_cons (f : Fm) (fs : List Fm) (h : Nat) : VC (f :: fs) h ↔ VC [f] (hgt fs h) ∧ VC fs h := by
  have := VC_append [f] fs h
  exact this
end Go.Proofs.Ytidekgmpbcnfmaa.Avm
