/- ClearAll of a bitset, telling that only the words' block turns. -/
import Derived.Test.YtbcbkieebelleaaBlAdd
import Derived.Test.YtbcbkieebelleaaBsClean
import Derived.Outline
namespace Go.Proofs.Ytbcbkieebelleaa
set_option linter.unusedVariables false
open Go.RowKit

def FarLoop (x B p L : Nat) (ws : List Nat) (cap g n : Nat) (w : World) (k : Nat) (idx : Value) (wr : World) : Prop :=
  LayLoop x B p L ws cap g n w k idx wr ∧ w.grownBy wr (some g)

set_option maxRecDepth 100000 in
set_option maxHeartbeats 1000000 in
theorem clearall_far (B : Nat) (p L : Nat) (ws : List Nat) (cap : Nat) (w : World) (hb : Bs B w p L ws cap) (hwl : ws.length ≤ 100000) (g : Nat) (hg0 : w.cell? ⟨p, 1, none⟩ = some (.slice (some ⟨g, 0, none⟩) ws.length cap)) :
    Calls Try.prog 73 #[.pointer (some ⟨p, 0, none⟩)] w fun e w' => e = .returned (.pointer (some ⟨p, 0, none⟩)) ∧
      Bs B w' p L (Bsm.lay 0 ws ws.length) cap ∧ Below B w w' ∧ w.grownBy w' (some g) ∧ w'.cell? ⟨p, 1, none⟩ = some (.slice (some ⟨g, 0, none⟩) ws.length cap) := by
  obtain ⟨g', c0, c1, c2⟩ := hb.cells
  have hgg : g' = g := by
    have h := c1.symm.trans hg0
    simpa using h
  subst hgg
  clear hg0
  obtain ⟨n, hn⟩ : ∃ n, ws.length = n := ⟨_, rfl⟩
  rw [hn] at c1 hwl ⊢
  have HB := Lib.hid hb
  have HN := Lib.hid hn
  clear hb hn c2
  go_enter Try.func73, Try.ntmps73
  go_wp2_with fail
  go_loopg [18] n (fun k idx wr => FarLoop 0 B p L ws cap g' n w k idx wr)
  case atStart => exact ⟨⟨0, rfl, by omega, HB.out, c1, Below.refl _ _⟩, only_refl w _⟩
  case round =>
    obtain ⟨⟨i, rfl, hik, hbs, hc, hbel⟩, hgr⟩ := hrel
    have HGR := Lib.hid hgr
    clear hgr
    by_cases hi : i < n
    · cases gk with
      | zero => omega
      | succ k =>
        have hl : (Bsm.lay 0 ws i).length = n := by rw [Bsm.lay_len, HN.out]
        have hput := Bs.put hbs (by rw [hl]; exact hc) i 0 (by omega) (by omega)
        have hf := hput.2.2.1
        have hc2 := hput.2.2.2.1
        rw [hl] at hput
        have HP := Lib.hid hput
        clear hbs hput hl
        go_wp2_with fail
        go_roundg k
        case measure => omega
        case rel => exact ⟨⟨i + 1, by go_num, by omega, HP.out.1, HP.out.2.2.2.2, hbel.trans HP.out.2.1⟩, only_setCell HGR.out (.inl rfl) _⟩
    · obtain rfl : i = n := by omega
      go_wp2_with fail
      go_ret
      exact ⟨rfl, hbs, hbel, HGR.out, hc⟩
theorem bit_lay_zero (ws : List Nat) (j : Nat) : Bsm.bit (Bsm.lay 0 ws ws.length) j = false := by
  rw [Bsm.bit_lay]
  simp

set_option maxRecDepth 100000 in
set_option maxHeartbeats 1000000 in
theorem flclear_any (B f p m k Lb : Nat) (ws : List Nat) (cap : Nat) (w : World) (hb : Bf B w f p m k Lb ws cap) (hwl : ws.length ≤ 100000) :
    Calls Try.prog 54 #[.pointer (some ⟨f, 0, none⟩)] w fun e w' => e = .returned (.pointer (some ⟨f, 0, none⟩)) ∧
      ∃ ws', Bf B w' f p m k Lb ws' cap ∧ ws'.length = ws.length ∧ (∀ j, Bsm.bit ws' j = false) ∧ Below B w w' ∧ w.heap.size ≤ w'.heap.size := by
  obtain ⟨h1, h2, h3, h4, h5⟩ := hb
  obtain ⟨g, hg, _, _, _, _⟩ := h3.wordsAt
  have hgf := h5 g hg
  have c2 : w.cell? ⟨f, 2, none⟩ = some (.pointer (some ⟨p, 0, none⟩)) := h2.cell 2 rfl
  have HC := Lib.hid (clearall_far B p Lb ws cap w h3 hwl g hg)
  have H2 := Lib.hid h2
  have H1 := Lib.hid h1
  have H4 := Lib.hid h4
  have HGF := Lib.hid hgf
  clear h1 h2 h3 h4 h5 hg hgf hwl
  go_enter Try.func54, Try.ntmps54
  go_wp2_with fail
  refine HC.out.mono ?_
  rintro e w2 ⟨rfl, hs, hbel, hgr, hcp⟩
  go_wp2_with fail
  go_ret
  refine ⟨rfl, _, ⟨H1.out, H2.out.grown hgr (fun e => HGF.out (by simpa using e)), hs, H4.out, fun g' hg' => ?_⟩, by rw [Bsm.lay_len], bit_lay_zero ws, hbel, hgr.size⟩
  have h := hcp.symm.trans hg'
  have e : g = g' := by
    simp only [Option.some.injEq, Value.slice.injEq] at h
    have := h.1
    injection this with this
  rw [← e]
  exact HGF.out
end Go.Proofs.Ytbcbkieebelleaa
