/- Slices of slices of bytes, as arguments. -/
import Derived.Test.YtbcbkieebelleaaBlTestLaw
import Derived.Deep.Matrix
namespace Go.Proofs.Ytbcbkieebelleaa
set_option linter.unusedVariables false
open Go.RowKit

/-- v is a slice of slices of bytes -/
def AnyRows (w : World) (v : Value) : Prop := ∃ dl : List (Value × List Int), Sl w v (dl.map (·.1)) ∧ ∀ p ∈ dl, Sl w p.1 (u8s p.2) ∧ ∀ x ∈ p.2, 0 ≤ x ∧ x ≤ 255

set_option maxRecDepth 100000 in
theorem open_u8rows {H : Type} {enc : TypeId × Value → H} {W : World} {v : Value} {d : DataW H} {p : List MemPlace} {r : Reach} {b0 : Nat}
    (hv : Value.okWide Try.prog W r b0 61 v) (h : DataW.Trod enc Try.prog W 0 (fun _ => true) true 61 v d p) : AnyRows W v := by
  obtain ⟨a, len, cap, rfl⟩ := WideShapes.okWide_slice Try.underlying61 hv
  obtain ⟨fuel, hf0⟩ := h
  have hf : DataW.trod enc Try.prog W 0 (fun _ => true) true fuel 61 [.slice a len cap] = some (d, p) := hf0
  rcases Go.Deep.open_int_rows Try.underlying61 Try.underlying49 Try.underlying5 (by kernel_rfl) (by kernel_rfl) hf with ⟨hcs, _⟩ | ⟨a', l', c', A, L, C, Z, hcs, _, hl, hm, _, hrow⟩
  · simp at hcs
    obtain ⟨rfl, rfl, rfl⟩ := hcs
    exact ⟨[], Sl.nil W, by simp⟩
  · simp at hcs
    obtain ⟨rfl, rfl, rfl⟩ := hcs
    refine ⟨(List.range len).map fun r => (.slice (A r) (L r) (C r), (Z r).take (L r)), ⟨some a', len, cap, rfl, by simp, hl, hm, fun h0 => ?_⟩, ?_⟩
    · have c0 := (hrow 0 (by omega)).1
      obtain ⟨b, off, spot⟩ := a'
      have hspot : spot = none := by simpa [Addr.add] using World.cell?_spot c0
      subst hspot
      refine ⟨b, off, rfl, fun i u hu => ?_⟩
      by_cases hi : i < len
      · have := (hrow i (by omega)).1
        simp [hi] at hu
        subst hu
        rwa [addr_add] at this
      · rw [List.getElem?_eq_none (by simp; omega)] at hu
        cases hu
    · intro q hq
      obtain ⟨r, hr, rfl⟩ := List.mem_map.1 hq
      have hr2 : r < len := List.mem_range.1 hr
      obtain ⟨_, h1, h2, h3, h4, h5, h6⟩ := hrow r (by omega)
      refine ⟨⟨A r, L r, C r, rfl, by simp [u8s]; omega, h1, h2, fun h0 => ?_⟩, fun x hx => ?_⟩
      · cases hA : A r with
        | none => have := h5 hA; omega
        | some a'' =>
          have h7 := (h6 a'' hA).2
          have c0 := h7 0 (by omega)
          obtain ⟨b, off, spot⟩ := a''
          have hspot : spot = none := by simpa [Addr.add] using World.cell?_spot c0
          subst hspot
          refine ⟨b, off, rfl, fun i u hu => ?_⟩
          simp only [u8s, List.getElem?_map, List.getElem?_take] at hu
          split at hu
          · rename_i hi
            have hi2 : i < (Z r).length := by omega
            have := h7 i (by omega)
            rw [List.getElem?_eq_getElem hi2] at hu
            simp at hu
            subst hu
            rw [List.getD_eq_getElem?_getD, List.getElem?_eq_getElem hi2] at this
            rwa [addr_add] at this
          · simp at hu
      · have hz := h4 x (List.mem_of_mem_take hx)
        simp [Lit.wf, IntKind.min, IntKind.max, IntKind.signed, IntKind.bits] at hz
        omega

def SomeBool (w : World) (e : Ending) (w' : World) : Prop := ∃ b : Bool, e = .returned (.bool b) ∧ ∃ nq, w' = w.drewN nq

def FitsLoop (n : Nat) (w : World) (k : Nat) (idx : Value) (wr : World) : Prop :=
  ∃ i : Nat, idx = .int .i64 (i : Int) ∧ i + k = n ∧ wr = w

set_option maxRecDepth 100000 in
set_option maxHeartbeats 1000000 in
theorem fits5_any (v : Value) (dl : List (Value × List Int)) (w : World) (hv : Sl w v (dl.map (·.1))) (hd : ∀ p ∈ dl, Sl w p.1 (u8s p.2) ∧ ∀ x ∈ p.2, 0 ≤ x ∧ x ≤ 255) :
    Calls Try.prog 33 #[v] w (SomeBool w) := by
  obtain ⟨a, n, cap, rfl, hl, hc, hm, hr⟩ := hv
  have hln : dl.length = n := by simpa using hl
  have hn1 : (n : Int) ≤ 9223372036854775807 := by unfold maxLen at hm; omega
  have HL := Lib.hid hln
  have HD := Lib.hid hd
  have HR := Lib.hid hr
  clear hl hln hd hr hc hm
  by_cases hf : (2147483647 : Int) < (n : Int)
  · go_enter Try.func33, Try.ntmps33
    go_wp2_with fail
    go_ret
    exact ⟨_, rfl, 0, rfl⟩
  · go_enter Try.func33, Try.ntmps33
    go_wp2_with fail
    go_loopg [10] n (fun k idx wr => FitsLoop n w k idx wr)
    case atStart => exact ⟨0, rfl, by omega, rfl⟩
    case round =>
      obtain ⟨i, rfl, hik, hw⟩ := hrel
      subst hw
      by_cases hi : i < n
      · cases gk with
        | zero => omega
        | succ k =>
          obtain ⟨b, o, rfl, hcell⟩ := HR.out (by omega)
          have hdl : i < dl.length := by rw [HL.out]; exact hi
          have h1 := hcell i (dl[i]'hdl).1 (by simp [hdl])
          have h2 := (HD.out (dl[i]'hdl) (List.getElem_mem hdl)).1
          obtain ⟨a2, n2, c2, e2, x1, x2, x3, x4⟩ := h2
          rw [e2] at h1
          clear hcell x4 x1 x2 x3 e2 hdl
          by_cases hg : (2147483647 : Int) < (n2 : Int)
          · go_wp2_with fail
            go_ret
            exact ⟨_, rfl, 0, rfl⟩
          · go_wp2_with fail
            go_roundg k
            case measure => omega
            case rel => exact ⟨i + 1, by go_num, by omega, rfl⟩
      · have hd : decide ((i : Int) < (n : Int)) = false := by simp; omega
        go_wp2_with fail
        go_ret
        exact ⟨_, rfl, 0, rfl⟩
end Go.Proofs.Ytbcbkieebelleaa
