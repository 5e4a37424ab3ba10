/- Walk of (*BitSet).DeleteAt. -/
import Derived.Test.YtbcbkieebelleaaBsWords
import Derived.Test.YtbcbkieebelleaaBsWhole
import Derived.Test.YtbcbkieebelleaaBsDelMath
import Derived.Outline
namespace Go.Proofs.Ytbcbkieebelleaa
set_option linter.unusedVariables false
open Go.RowKit

theorem unbound_any (L : Nat) (w : World) (hL : L ≤ 1000000) :
    Calls Try.prog 85 #[.int .u64 (L : Int)] w fun e w' => e = .returned (.int .i64 (((L + 63) / 64 : Nat) : Int)) ∧ w = w' := by
  have h : ((L : Int) + 63) / 64 = (((L + 63) / 64 : Nat) : Int) := by omega
  have H := Lib.hid h
  clear h
  go_enter Try.func85, Try.ntmps85
  go_wp2_with fail
  go_ret
  exact ⟨ret_int (by rw [← H.out]), rfl⟩

theorem wordcount2_any (p L : Nat) (s : Value) (w : World) (hb : Blk w p 91 #[.int .u64 (L : Int), s]) (hL : L ≤ 1000000) :
    Calls Try.prog 81 #[.pointer (some ⟨p, 0, none⟩)] w fun e w' => e = .returned (.int .i64 (((L + 63) / 64 : Nat) : Int)) ∧ w = w' := by
  have c0 : w.cell? ⟨p, 0, none⟩ = some (.int .u64 (L : Int)) := hb.cell 0 rfl
  go_enter Try.func81, Try.ntmps81
  go_wp2_with fail
  refine (unbound_any L _ hL).mono ?_
  rintro e w' ⟨rfl, rfl⟩
  go_wp2_with fail
  go_ret
  exact ⟨rfl, rfl⟩

theorem ownsRow_cap {w : World} {B : Nat} {e : TypeId} {a : Addr} {m cap n : Nat} {xs : List Value} (h : w.ownsRow B e 1 (.slice (some a) m cap) n xs) : n ≤ cap := by
  rcases h.2 with ⟨e, _⟩ | ⟨g, cap', cur, e, _, _, hnc, _⟩
  · simp at e
  · simp only [Value.slice.injEq] at e; rw [e.2.2]; exact hnc

theorem ownsRow_cut {w : World} {B : Nat} {e : TypeId} {g n cap : Nat} {xs : List Value} (h : w.ownsRow B e 1 (.slice (some ⟨g, 0, none⟩) n cap) n xs) (m : Nat) (hm : m ≤ n) : w.ownsRow B e 1 (.slice (some ⟨g, 0, none⟩) m cap) m (xs.take m) := by
  have hl := h.1
  rcases h.2 with ⟨e, _⟩ | ⟨g', cap', cur, e, hbg, hg, hnc, hcm, hcs, htake⟩
  · simp at e
  · simp only [Value.slice.injEq, Option.some.injEq, Addr.mk.injEq, and_true, true_and] at e
    obtain ⟨rfl, rfl⟩ := e
    refine ⟨by simp; omega, .inr ⟨g, cap, cur, rfl, hbg, hg, by omega, hcm, hcs, ?_⟩⟩
    rw [← htake, List.take_take]
    congr 1
    omega

def DelLoop (B p L : Nat) (ws : List Nat) (cap g n q y : Nat) (w : World) (k : Nat) (idx : Value) (wr : World) : Prop :=
  ∃ s t : Nat, idx = .int .i64 (t : Int) ∧ t = s + 1 ∧ q ≤ s ∧ t + k = n ∧ Bs B wr p L (Bsm.delw ws q y (s - q)) cap ∧ wr.cell? ⟨p, 1, none⟩ = some (.slice (some ⟨g, 0, none⟩) n cap) ∧ Below B w wr

end Go.Proofs.Ytbcbkieebelleaa
