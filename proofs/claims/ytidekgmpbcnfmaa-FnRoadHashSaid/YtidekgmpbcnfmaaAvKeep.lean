/- The walks of impl.AVRun and impl.AVKeep. -/
import Derived.Test.YtidekgmpbcnfmaaAvAll
namespace Go.Proofs.Ytidekgmpbcnfmaa
set_option linter.unusedVariables false
open Go.RowKit Avm

set_option maxRecDepth 100000 in
theorem avrun_any (S : List AStp) (U : List ASaid) (σ' : List (Option Lst)) (v : Value) (R : List (List Value)) (w : World) (hv : Rw 3 w v R) (hst : AStepsAt w R S) (hr : ARuns [some []] S U σ') (hn : S.length ≤ 400) (hD : (∃ s ∈ S, s.op = 2) → DelC) (hAS : AvSaidC) :
    Calls Try.prog 8 #[v] w fun e w' => ∃ (qo : Option Addr) (co : Nat) (rows : List (List Value)), e = .returned (.slice qo S.length co) ∧ w'.ownsRow w.heap.size 36 3 (.slice qo S.length co) S.length rows.flatten ∧ (∀ r ∈ rows, r.length = 3) ∧ rows.length = S.length ∧ ASaidAt w' w.heap.size rows U ∧ Below w.heap.size w w' := by
  have H := Lib.hid (avall_any S U σ' v R w hv hst hr hn hD hAS)
  obtain ⟨a0, n, cap, rfl, hla, hc, hm, hrr⟩ := hv
  clear hst hr hn hD hAS hla hc hm hrr
  obtain ⟨N, hN⟩ : ∃ N, S.length = N := ⟨_, rfl⟩
  rw [hN] at H ⊢
  clear hN
  go_enter Try.func8, Try.ntmps8
  go_wp2_with fail
  refine H.out.mono ?_
  rintro e w1 ⟨ps, qt, ct, qo, co, rows, rfl, h1, h2, h3, h4, h5, h6, h7⟩
  have H2 := Lib.hid h2
  have H3 := Lib.hid h3
  have H4 := Lib.hid h4
  have H5 := Lib.hid h5
  have H7 := Lib.hid h7
  clear h1 h2 h3 h4 h5 h6 h7 H
  go_wp2_with fail
  go_ret
  exact ⟨qo, co, rows, rfl, H2.out, H3.out, H4.out, H5.out, H7.out⟩

def i64s (ks : List Int) : List Value := ks.map (Value.int .i64)
def ask0 (ks : List Int) : Lst := ks.map fun k => (k, 0)
def kept (ks : List Int) (L : Lst) : ASaid := ⟨L.length, getOs L (ask0 ks)⟩
theorem ASaidAt.base {w : World} {G G' : Nat} {R : List (List Value)} {U : List ASaid} (h : ASaidAt w G R U) (hG : G' ≤ G) : ASaidAt w G' R U :=
  ⟨h.1, fun i row u hr hu => by
    obtain ⟨q1, c1, q2, c2, e, h1, h2⟩ := h.2 i row u hr hu
    exact ⟨q1, c1, q2, c2, e, own_base' h1 hG, own_base' h2 hG⟩⟩
def KLoop1 (ks : List Int) (n B : Nat) (w1 : World) (k : Nat) (s7 idx : Value) (wr : World) : Prop :=
  ∃ (j : Nat) (q : Option Addr) (c : Nat), s7 = .slice q j c ∧ idx = .int .i64 (j : Int) ∧ j + k = n ∧ wr.ownsRow B 25 2 (.slice q j c) j (aes (ask0 (ks.take j))).flatten ∧ Below B w1 wr
def KLoop2 (ks : List Int) (Ls : List Lst) (m B : Nat) (w2 : World) (k : Nat) (s10 idx : Value) (wr : World) : Prop :=
  ∃ (j : Nat) (q : Option Addr) (c : Nat) (rows : List (List Value)), s10 = .slice q j c ∧ idx = .int .i64 (j : Int) ∧ j + k = m ∧ wr.ownsRow B 36 3 (.slice q j c) j rows.flatten ∧ (∀ r ∈ rows, r.length = 3) ∧ rows.length = j ∧ ASaidAt wr B rows ((Ls.take j).map (kept ks)) ∧ Below B w2 wr

end Go.Proofs.Ytidekgmpbcnfmaa
