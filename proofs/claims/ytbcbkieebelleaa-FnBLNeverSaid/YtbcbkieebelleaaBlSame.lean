/- Walks of spec.BLSame and laws.blNone. -/
import Derived.Test.YtbcbkieebelleaaBl
import Derived.Deep.LoopGhost
namespace Go.Proofs.Ytbcbkieebelleaa
set_option linter.unusedVariables false
open Go.RowKit

/-- the loop of BLSame -/
def BlSameLoop (M : Nat) (w : World) (k : Nat) (idx : Value) (wr : World) : Prop :=
  ∃ i : Nat, idx = .int .i64 (i : Int) ∧ i + k = M ∧ ∃ nq, wr = w.drewN nq

set_option maxRecDepth 100000 in
set_option maxHeartbeats 1000000 in
/-- BLSame of a filter, and its bits -/
theorem blsame_yes (v u : Value) (m k : Nat) (ws : List Nat) (K : Int) (bs : List Bool) (w : World) (hv : Fil w v m k ws) (hu : Sl w u (bools bs)) (hK : K = (k : Int)) (hl : (m + 63) / 64 ≤ ws.length) (hw : ws.length ≤ 10000) (hbs : Bsm.bitsOf ws m = bs) (hM : m ≤ 100000) :
    Calls Try.prog 18 #[v, .int .u64 K, u] w fun e w' => e = .returned (.bool true) ∧ Below w.heap.size w w' := by
  subst hK
  have hlen : bs.length = m := by rw [← hbs]; exact Bsm.bitsOf_len _ _
  obtain ⟨a, n, cap, rfl, hsl, hx⟩ := hv
  have hsl0 := hsl
  obtain ⟨_, _, _, e, hln, hnc, hcm, _⟩ := hsl0
  simp only [Value.slice.injEq] at e
  obtain ⟨rfl, rfl, rfl⟩ := e
  rw [u64s_len] at hln
  have hb0 : Below w.heap.size w (w.alloc (.cells #[.int .u64 (m : Int), .int .u64 (k : Int), .slice a n cap] 39)) := (Below.refl _ _).alloc (Nat.le_refl _) _
  have HU := Lib.hid (hu.below rfl hb0)
  obtain ⟨a2, n2, cap2, rfl, hl2, hc2, hm2, hr2⟩ := hu
  rw [bools_len, hlen] at hl2
  subst hl2
  have HS := Lib.hid (hsl.below rfl hb0)
  have HX := Lib.hid hx
  have HB0 := Lib.hid hb0
  have HBS := Lib.hid hbs
  have HLEN := Lib.hid hlen
  have e1 : ((m : Int) != (m : Int)) = false := by simp
  have e2 : ((k : Int) != (k : Int)) = false := by simp
  have hn9 : n ≤ 10000 := by omega
  have e3 : decide ((n : Int) < ((m : Int) + 63) / 64) = false := by simp; omega
  clear hsl hx hln hnc hcm hbs hlen hc2 hm2 hr2 hb0
  go_enter Try.func18, Try.ntmps18
  go_wp2_with fail
  refine (blbits_any m _ rfl _ _ ws _ HS.out HX.out hM).mono ?_
  rintro e w1 ⟨vb, rfl, hown, hb1⟩
  have HV := Lib.hid (Sl.of_owns hown)
  have HT := Lib.hid (HB0.out.trans (hb1.mono (by simp)))
  have HU1 := Lib.hid (HU.out.below rfl hb1)
  have hv1 := HV.out
  have hu1 := HU1.out
  rw [HBS.out] at hv1
  obtain ⟨b1, n1, c1, rfl, hl1, hcn1, hcm1, hr1⟩ := hv1
  obtain ⟨_, _, _, e, hl2, hc2, hm2, hr2⟩ := hu1
  simp only [Value.slice.injEq] at e
  obtain ⟨rfl, rfl, rfl⟩ := e
  rw [bools_len, HLEN.out] at hl1 hl2
  subst hl1
  clear hown hb1 hcn1 hcm1 hc2 hm2 hl2
  go_wp2_with fail
  go_loopg [8] m (fun k idx wr => BlSameLoop m w1 k idx wr)
  case atStart => exact ⟨0, rfl, by omega, 0, rfl⟩
  case round =>
    obtain ⟨i, rfl, hik, nq, rfl⟩ := hrel
    by_cases hi : i < m
    · obtain ⟨p1, o1, rfl, hcell⟩ := hr1 (by omega)
      obtain ⟨p2, o2, rfl, hcell2⟩ := hr2 (by omega)
      have h1 := hcell i _ (bools_at bs i (by rw [HLEN.out]; exact hi))
      have h2 := hcell2 i _ (bools_at bs i (by rw [HLEN.out]; exact hi))
      obtain ⟨X, hX⟩ : ∃ X, bs.getD i false = X := ⟨_, rfl⟩
      rw [hX] at h1 h2
      have hxx : (X != X) = false := by simp
      clear hr1 hr2 hcell hcell2 hX
      cases gk with
      | zero => omega
      | succ k =>
        go_wp2_with fail
        go_quiet (fail)
        go_wp2_with fail
        go_roundg k
        case measure => omega
        case rel => exact ⟨i + 1, by go_num, by omega, _, rfl⟩
    · have hd : decide ((i : Int) < (m : Int)) = false := by simp; omega
      go_wp2_with fail
      go_ret
      exact ⟨rfl, below_drewN HT.out _⟩

set_option maxHeartbeats 400000 in
theorem blnone_any (n : Nat) (w : World) (hn : n ≤ 100000) :
    Calls Try.prog 20 #[.int .u64 (n : Int)] w fun e w' => ∃ v', e = .returned v' ∧ w'.ownsRow w.heap.size 4 1 v' n (bools (List.replicate n false)) ∧ Below w.heap.size w w' := by
  go_enter Try.func20, Try.ntmps20
  go_wp2_with (at_make; refine wpList_make1 rfl _ _ 32 rfl w.heap.size 4 (.bool false) 1 Try.underlying32 info_bool rfl _ _ _ _ n rfl rfl rfl rfl (by omega) (by unfold maxLen; omega) (Nat.le_refl _) ?_; intro w1 hown1 hb1 hs1)
  go_ret
  refine ⟨_, rfl, ?_, hb1⟩
  have e : bools (List.replicate n false) = List.replicate n (.bool false) := by simp [bools]
  rw [e]
  exact hown1
end Go.Proofs.Ytbcbkieebelleaa
