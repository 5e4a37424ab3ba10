/- Walk of spec.BSShift with a number below 0. -/
import Derived.Test.YtbgmkojiklphmaaBsSaid
import Derived.Outline
namespace Go.Proofs.Ytbgmkojiklphmaa
set_option linter.unusedVariables false
open Go.RowKit

/-- the places from n on, n places further back, below i -/
def Bsm.shq (bs : List Bool) (n : Nat) : Nat → List Nat
  | 0 => []
  | i + 1 => if bs.getD i false && decide (n ≤ i) then Bsm.shq bs n i ++ [i - n] else Bsm.shq bs n i
theorem Bsm.shq_len (bs : List Bool) (n i : Nat) : (Bsm.shq bs n i).length ≤ i := by
  induction i with
  | zero => simp [Bsm.shq]
  | succ i ih => simp only [Bsm.shq]; split <;> (try simp only [List.length_append, List.length_singleton]) <;> omega
theorem Bsm.shq_low (bs : List Bool) (n i : Nat) (h : i ≤ n) : Bsm.shq bs n i = [] := by
  induction i with
  | zero => rfl
  | succ i ih => simp only [Bsm.shq]; rw [ih (by omega), if_neg]; simp; omega
theorem Bsm.posn_stop (cs : List Bool) (m x : Nat) (h : ∀ j, m ≤ j → cs.getD j false = false) : Bsm.posn cs (m + x) = Bsm.posn cs m := by
  induction x with
  | zero => rfl
  | succ x ih => rw [← Nat.add_assoc]; simp only [Bsm.posn]; rw [ih, h (m + x) (by omega)]; simp
theorem Bsm.posn_shq (cs bs : List Bool) (n m : Nat) (h : ∀ j, cs.getD j false = bs.getD (j + n) false) : Bsm.posn cs m = Bsm.shq bs n (m + n) := by
  induction m with
  | zero => rw [Nat.zero_add, Bsm.shq_low _ _ _ (Nat.le_refl _)]; rfl
  | succ m ih =>
    rw [show m + 1 + n = (m + n) + 1 from by omega]
    simp only [Bsm.posn, Bsm.shq]
    rw [h m, ih]
    have e : decide (n ≤ m + n) = true := by simp
    rw [e, Bool.and_true, show m + n - n = m from by omega]
    split <;> simp
theorem Bsm.pos_shift (cs bs : List Bool) (n : Nat) (hl : cs.length = bs.length) (h : ∀ j, cs.getD j false = bs.getD (j + n) false) : Bsm.pos cs = Bsm.shq bs n bs.length := by
  unfold Bsm.pos
  rw [hl]
  by_cases hn : n ≤ bs.length
  · have e : Bsm.posn cs ((bs.length - n) + n) = Bsm.posn cs (bs.length - n) := Bsm.posn_stop cs _ n fun j hj => by rw [h]; exact Bsm.getD_out bs _ (by omega)
    rw [show bs.length - n + n = bs.length from by omega] at e
    rw [e, Bsm.posn_shq cs bs n _ h, show bs.length - n + n = bs.length from by omega]
  · rw [Bsm.shq_low _ _ _ (by omega)]
    have e : Bsm.posn cs (0 + bs.length) = Bsm.posn cs 0 := Bsm.posn_stop cs 0 _ fun j hj => by rw [h]; exact Bsm.getD_out bs _ (by omega)
    rw [Nat.zero_add] at e
    rw [e]; rfl

def ShLoop (bs : List Bool) (n len : Nat) (w : World) (k : Nat) (out idx : Value) (wr : World) : Prop :=
  ∃ (i : Nat) (p : Option Addr) (m cap : Nat), out = .slice p m cap ∧ idx = .int .i64 (i : Int) ∧ i + k = len ∧
    wr.ownsRow w.heap.size 22 1 (.slice p m cap) (Bsm.shq bs n i).length (u64s (Bsm.shq bs n i)) ∧ Below w.heap.size w wr

set_option maxRecDepth 100000 in
set_option maxHeartbeats 1000000 in
theorem shspec_any (v : Value) (bs : List Bool) (n : Nat) (I : Int) (hI : I = -(n : Int)) (w : World) (hv : Sl w v (bools bs)) (hl : bs.length ≤ 10000) (hn : n ≤ 10000) :
    Calls Try.prog 45 #[v, .int .i64 I] w fun e w' => ∃ v', e = .returned v' ∧ w'.ownsRow w.heap.size 22 1 v' (Bsm.shq bs n bs.length).length (u64s (Bsm.shq bs n bs.length)) ∧ Below w.heap.size w w' := by
  obtain ⟨a, len, cap, rfl, hln, hc, hm, hr⟩ := hv
  rw [bools_len] at hln
  have HL := Lib.hid hln
  have hI1 : -10000 ≤ I := by omega
  have hI2 : I ≤ 0 := by omega
  have hlen : len ≤ 10000 := by omega
  have HI := Lib.hid hI
  clear hln hm hI hl
  go_enter Try.func45, Try.ntmps45
  go_wp2_with fail
  go_loopg [5, 6] len (fun k out idx wr => ShLoop bs n len w k out idx wr)
  case atStart => exact ⟨0, none, 0, 0, rfl, rfl, by omega, World.ownsRow_nil _ _ _ _, Below.refl _ _⟩
  case round =>
    obtain ⟨i, p, m, cap0, rfl, rfl, hik, hown, hbel⟩ := hrel
    have HO := Lib.hid hown
    clear hown
    by_cases hi : i < len
    · obtain ⟨b, off, rfl, hcell⟩ := hr (by omega)
      have h1 := hcell i _ (bools_at bs i (by rw [HL.out]; exact hi))
      rw [← hbel.cell (World.block_lt_of_cell? w _ h1)] at h1
      obtain ⟨X, hX⟩ : ∃ X, bs.getD i false = X := ⟨_, rfl⟩
      rw [hX] at h1
      have HX := Lib.hid hX
      clear hr hcell hX
      cases gk with
      | zero => omega
      | succ k =>
        cases X
        · go_wp2_with fail
          go_roundg k
          case measure => omega
          case rel =>
            have e : Bsm.shq bs n (i + 1) = Bsm.shq bs n i := by simp only [Bsm.shq]; rw [HX.out]; simp
            exact ⟨i + 1, p, m, cap0, rfl, by go_num, by omega, by rw [e]; exact HO.out, hbel⟩
        · by_cases hni : n ≤ i
          · obtain ⟨y, hy⟩ : ∃ y, i - n = y := ⟨_, rfl⟩
            have hs : (i : Int) + I = (y : Int) := by have := HI.out; omega
            have hge : decide ((0 : Int) ≤ (y : Int)) = true := by simp
            have hpl := Bsm.shq_len bs n i
            have hm1 : (Bsm.shq bs n i).length + 1 ≤ maxLen := by unfold maxLen; omega
            have HY := Lib.hid hy
            have HZ := Lib.hid hbel.size
            have hsz := hbel.size
            clear hy
            go_wp2_with (at_builtin; refine wpList_append1 rfl _ _ 23 rfl w.heap.size 22 (.int .u64 0) 8 Try.underlying23 info_u64 rfl _ (Bsm.shq bs n i).length (u64s (Bsm.shq bs n i)) rfl HO.out _ rfl rfl hm1 (by omega) hsz ?_; intro g cap1 w1 hown1 hg1 hb1)
            go_roundg k
            case measure => omega
            case rel =>
              have e : Bsm.shq bs n (i + 1) = Bsm.shq bs n i ++ [i - n] := by simp only [Bsm.shq]; rw [HX.out]; simp [hni]
              refine ⟨i + 1, some ⟨g, 0, none⟩, _, cap1, rfl, by go_num, by omega, ?_, hbel.trans hb1⟩
              rw [e, u64s_append, List.length_append, HY.out]
              exact hown1
          · have hs : ¬ (0 : Int) ≤ (i : Int) + I := by have := HI.out; omega
            have hs2 : (i : Int) + I < 0 := by omega
            go_wp2_with fail
            go_roundg k
            case measure => omega
            case rel =>
              have e : Bsm.shq bs n (i + 1) = Bsm.shq bs n i := by simp only [Bsm.shq]; rw [HX.out, if_neg (by simp [hni])]
              exact ⟨i + 1, p, m, cap0, rfl, by go_num, by omega, by rw [e]; exact HO.out, hbel⟩
    · obtain rfl : i = len := by omega
      go_wp2_with fail
      go_ret
      rw [HL.out]
      exact ⟨_, rfl, HO.out, hbel⟩
end Go.Proofs.Ytbgmkojiklphmaa
