/- Walk of spec.BLPut over the bits of words and a list of locations. -/
import Derived.Test.YtbcbkieebelleaaBlTest
import Derived.Test.YtbcbkieebelleaaBsPut
import Derived.Outline
namespace Go.Proofs.Ytbcbkieebelleaa
set_option linter.unusedVariables false
open Go.RowKit

/-- the bits of ws, with those at the first i locations set -/
def pb (L : Nat → Nat) (m i : Nat) (ws : List Nat) : List Bool := (List.range m).map fun j => Bsm.bit ws j || hits L m i j
theorem pb_len (L : Nat → Nat) (m i : Nat) (ws : List Nat) : (pb L m i ws).length = m := by simp [pb]
theorem pb_zero (L : Nat → Nat) (m : Nat) (ws : List Nat) : pb L m 0 ws = Bsm.bitsOf ws m := by
  unfold pb Bsm.bitsOf
  apply List.map_congr_left
  intro j _
  simp [hits]
theorem pb_bits (L : Nat → Nat) (m k : Nat) (ws ws' : List Nat) (h : ∀ j, Bsm.bit ws' j = (Bsm.bit ws j || hits L m k j)) : pb L m k ws = Bsm.bitsOf ws' m := by
  unfold pb Bsm.bitsOf
  apply List.map_congr_left
  intro j _
  rw [h]
theorem pb_set (L : Nat → Nat) (m i : Nat) (ws : List Nat) (l : Nat) (hl : L i % m = l) : (bools (pb L m i ws)).set l (.bool true) = bools (pb L m (i + 1) ws) := by
  unfold bools pb
  apply List.ext_getElem
  · simp
  · intro j h1 h2
    simp only [List.getElem_set, List.getElem_map, List.getElem_range]
    rw [hits_succ, hl]
    by_cases hj : l = j
    · subst hj; simp
    · have hj2 : ¬ j = l := fun e => hj e.symm
      simp [hj, hj2]

def BlPutLoop (L : Nat → Nat) (m k : Nat) (ws : List Nat) (g cap : Nat) (w : World) (c : Nat) (iv : Value) (wr : World) : Prop :=
  ∃ i : Nat, iv = .int .i64 (i : Int) ∧ i + c = k ∧ wr.ownsRow w.heap.size 4 1 (.slice (some ⟨g, 0, none⟩) m cap) m (bools (pb L m i ws)) ∧ Below w.heap.size w wr

set_option maxRecDepth 100000 in
set_option maxHeartbeats 4000000 in
theorem blput_any (v u : Value) (L : Nat → Nat) (m k : Nat) (ws : List Nat) (w : World) (hv : Sl w v (bools (Bsm.bitsOf ws m))) (hu : Sl w u (u64s (lays L k k))) (h0 : 0 < m) (h9 : m ≤ 100000) (h8 : k ≤ 100000) :
    Calls Try.prog 30 #[v, u] w fun e w' => ∃ v', e = .returned v' ∧ w'.ownsRow w.heap.size 4 1 v' m (bools (pb L m k ws)) ∧ Below w.heap.size w w' := by
  have hb0 : Below w.heap.size w (w.alloc (.cells #[] 4)) := (Below.refl _ _).alloc (Nat.le_refl _) _
  have HV2 := Lib.hid (hv.below rfl hb0)
  have hlb : (bools (Bsm.bitsOf ws m)).length = m := by rw [bools_len, Bsm.bitsOf_len]
  have HLB := Lib.hid hlb
  obtain ⟨a1, n1, c1, rfl, hl1, _⟩ := hv
  obtain ⟨a2, n2, c2, rfl, hl2, _, _, hr2⟩ := hu
  have e1 : n1 = m := by rw [← hl1, bools_len, Bsm.bitsOf_len]
  have e2 : n2 = k := by rw [← hl2]; simp [u64s, lays]
  subst e1
  subst e2
  have HR2 := Lib.hid hr2
  have HB0 := Lib.hid hb0
  have hnz : ((n1 : Int) == 0) = false := by simp; omega
  have hnz2 : ¬ (n1 : Int) = 0 := by omega
  have hnz3 : ¬ n1 = 0 := by omega
  clear hl1 hl2 hr2 hlb hb0
  go_enter Try.func30, Try.ntmps30
  go_wp2_with (at_builtin; refine wpList_appendSl rfl _ _ 32 32 rfl w.heap.size 4 4 (.bool false) 1 Try.underlying32 Try.underlying32 info_bool rfl _ 0 [] rfl (empty_own w w.heap.size 4 (Nat.le_refl _)) _ _ rfl HV2.out (bool_cells _) (by rw [HLB.out]; unfold maxLen; omega) (by rw [HLB.out]; omega) (by simp) ?_; intro p1 m1 cap1 w1 hown1 _ hb1)
  have hm1 := ownsRow_len hown1
  rw [HLB.out, Nat.zero_add] at hm1
  rw [HLB.out, Nat.zero_add, List.nil_append] at hown1
  have hm2 : m1 = n1 := hm1
  clear hm1
  subst hm2
  obtain ⟨g, rfl, hg⟩ := ownsRow_some hown1 h0
  have HO1 := Lib.hid hown1
  have HB1 := Lib.hid (HB0.out.trans (hb1.mono (by simp)))
  have HG := Lib.hid hg
  clear hown1 hb1 hg
  go_wp2_with fail
  go_loopg [6] n2 (fun c iv wr => BlPutLoop L m1 n2 ws g cap1 w c iv wr)
  case atStart => exact ⟨0, rfl, by omega, by rw [pb_zero]; exact HO1.out, HB1.out⟩
  case round =>
    obtain ⟨i, rfl, hik, hown, hbel⟩ := hrel
    have HO := Lib.hid hown
    have HBEL := Lib.hid hbel
    clear hown hbel
    by_cases hi : i < n2
    · cases gk with
      | zero => omega
      | succ c =>
        obtain ⟨b2, o2, rfl, hcell2⟩ := HR2.out (by omega)
        have g2 := hcell2 i _ (lays_at L n2 n2 i hi)
        rw [if_pos hi] at g2
        rw [← HBEL.out.cell (World.block_lt_of_cell? w _ g2)] at g2
        obtain ⟨l, hl⟩ : ∃ l, L i % m1 = l := ⟨_, rfl⟩
        have hlm : l < m1 := by rw [← hl]; exact Nat.mod_lt _ h0
        have hmod : ((L i : Nat) : Int).tmod (m1 : Int) = (l : Int) := by rw [Int.tmod_eq_emod_of_nonneg (by omega)]; omega
        have g1 := HO.out.cellAt l (by omega)
        rw [bools_at _ _ (by rw [pb_len]; exact hlm)] at g1
        have f1 := HO.out.frozenAt l
        have hst := HO.out.stored l (.bool true)
        rw [pb_set L m1 i ws l hl] at hst
        have HST := Lib.hid hst
        obtain ⟨Y, hY⟩ : ∃ Y, (pb L m1 i ws).getD l false = Y := ⟨_, rfl⟩
        rw [hY] at g1
        obtain ⟨Z, hZ⟩ : ∃ Z, L i = Z := ⟨_, rfl⟩
        rw [hZ] at g2 hmod
        have hi0 : (0 : Int) ≤ (i : Int) := by omega
        have hi1 : (i : Int) < (n2 : Int) := by omega
        have hl0 : (0 : Int) ≤ (l : Int) := by omega
        have hl1 : (l : Int) < (m1 : Int) := by omega
        clear hcell2 hst hY hZ hl
        go_wp2_with fail
        go_roundg c
        case measure => omega
        case rel => exact ⟨i + 1, by go_num, by omega, HST.out.1, HBEL.out.setCell HG.out _⟩
    · obtain rfl : i = n2 := by omega
      have hd : decide ((i : Int) < (i : Int)) = false := by simp
      go_wp2_with fail
      go_ret
      exact ⟨_, rfl, HO.out, HBEL.out⟩
end Go.Proofs.Ytbcbkieebelleaa
