/- Walks of spec.BLOr, (*BloomFilter).Merge and impl.BLMerge. -/
import Derived.Test.YtbcbkieebelleaaBlFilter
import Derived.Test.YtbcbkieebelleaaBlUnion
namespace Go.Proofs.Ytbcbkieebelleaa
set_option linter.unusedVariables false
open Go.RowKit

def orr (a b : List Bool) (i : Nat) : List Bool := (List.range i).map fun j => a.getD j false || b.getD j false
theorem orr_succ (a b : List Bool) (i : Nat) : orr a b (i + 1) = orr a b i ++ [a.getD i false || b.getD i false] := by unfold orr; rw [List.range_succ, List.map_append]; rfl
theorem orr_len (a b : List Bool) (i : Nat) : (orr a b i).length = i := by simp [orr]
def OrLoop (a b : List Bool) (n : Nat) (w : World) (k : Nat) (out idx : Value) (wr : World) : Prop :=
  ∃ (i : Nat) (p : Option Addr) (m cap : Nat), out = .slice p m cap ∧ idx = .int .i64 (i : Int) ∧ i + k = n ∧ wr.ownsRow w.heap.size 4 1 (.slice p m cap) i (bools (orr a b i)) ∧ Below w.heap.size w wr

set_option maxRecDepth 100000 in
set_option maxHeartbeats 1000000 in
theorem blor_any (v u : Value) (xs bs : List Bool) (w : World) (hv : Sl w v (bools xs)) (hu : Sl w u (bools bs)) (hl : xs.length = bs.length) (hn : xs.length ≤ 100000) :
    Calls Try.prog 23 #[v, u] w fun e w' => ∃ v', e = .returned v' ∧ w'.ownsRow w.heap.size 4 1 v' xs.length (bools (orr xs bs xs.length)) ∧ Below w.heap.size w w' := by
  obtain ⟨a, n, cap, rfl, hla, hc, hm, hr⟩ := hv
  obtain ⟨a2, n2, cap2, rfl, hlb, hc2, hm2, hr2⟩ := hu
  rw [bools_len] at hla hlb
  have hn1 : n ≤ 100000 := by omega
  have hn2 : n = n2 := by omega
  subst hn2
  have HL := Lib.hid hla
  have HL2 := Lib.hid hlb
  clear hla hlb hl hn hm hm2
  go_enter Try.func23, Try.ntmps23
  go_wp2_with fail
  go_loopg [5, 6] n (fun k out idx wr => OrLoop xs bs n w k out idx wr)
  case atStart => exact ⟨0, none, 0, 0, rfl, rfl, by omega, World.ownsRow_nil _ _ _ _, Below.refl _ _⟩
  case round =>
    obtain ⟨i, p, m, cap0, rfl, rfl, hik, hown, hbel⟩ := hrel
    have HO := Lib.hid hown
    have hsz := hbel.size
    clear hown
    by_cases hi : i < n
    · cases gk with
      | zero => omega
      | succ k =>
        obtain ⟨b1, o1, rfl, hcell⟩ := hr (by omega)
        obtain ⟨b2, o2, rfl, hcell2⟩ := hr2 (by omega)
        have h1 := hcell i _ (bools_at xs i (by rw [HL.out]; exact hi))
        have h2 := hcell2 i _ (bools_at bs i (by rw [HL2.out]; exact hi))
        rw [← hbel.cell (World.block_lt_of_cell? w _ h1)] at h1
        rw [← hbel.cell (World.block_lt_of_cell? w _ h2)] at h2
        have hs := orr_succ xs bs i
        obtain ⟨X, hX⟩ : ∃ X, xs.getD i false = X := ⟨_, rfl⟩
        obtain ⟨Y, hY⟩ : ∃ Y, bs.getD i false = Y := ⟨_, rfl⟩
        rw [hX, hY] at hs
        rw [hX] at h1
        rw [hY] at h2
        have HS := Lib.hid hs
        have hm1 : i + 1 ≤ maxLen := by unfold maxLen; omega
        clear hr hr2 hcell hcell2 hX hY hs
        cases X
        all_goals
          go_wp2_with (at_builtin; refine wpList_append1 rfl _ _ 32 rfl w.heap.size 4 (.bool false) 1 Try.underlying32 info_bool rfl _ i (bools (orr xs bs i)) rfl HO.out _ rfl rfl hm1 (by omega) hsz ?_; intro g cap1 w1 hown1 hg1 hb1)
          go_roundg k
          case measure => omega
          case rel =>
            refine ⟨i + 1, some ⟨g, 0, none⟩, _, cap1, rfl, by go_num, by omega, ?_, hbel.trans hb1⟩
            rw [HS.out, bools_app]
            exact hown1
    · obtain rfl : i = n := by omega
      have hd : decide ((i : Int) < (i : Int)) = false := by simp
      go_wp2_with fail
      go_ret
      exact ⟨_, rfl, by rw [HL.out]; exact HO.out, hbel⟩

/-- what Merge does: the first filter has the bits of both -/
def MergeIs (B f p m k n L0 : Nat) (ws ws2 : List Nat) (w : World) (e : Ending) (w' : World) : Prop :=
  e = .returned .nilIface ∧ ∃ (ws' : List Nat) (cap L : Nat), (L0 ≤ L ∧ L ≤ 64 * n) ∧ Bf B w' f p m k L ws' cap ∧ ws'.length = n ∧ (∀ j, Bsm.bit ws' j = (Bsm.bit ws j || Bsm.bit ws2 j)) ∧ Below B w w' ∧ w.heap.size ≤ w'.heap.size

set_option maxRecDepth 100000 in
set_option maxHeartbeats 2000000 in
theorem merge_any (B B2 f f2 p p2 g0 g2 m k L L2 n : Nat) (ws ws2 : List Nat) (cap cap2 : Nat) (w : World) (hb : Bf B w f p m k L ws cap) (hb2 : Bf B2 w f2 p2 m k L2 ws2 cap2) (hL : L ≤ 10000) (hL2 : L2 ≤ 10000) (hL0 : 0 < L2)
    (hwl : (L + 63) / 64 = n) (hwn : ws.length = n) (hwl2 : (L2 + 63) / 64 = n) (hwn2 : ws2.length = n) (hBw : B ≤ w.heap.size) (hcap : L < L2 → cap = ws.length)
    (hg0 : w.cell? ⟨p, 1, none⟩ = some (.slice (some ⟨g0, 0, none⟩) n cap)) (hg2 : w.cell? ⟨p2, 1, none⟩ = some (.slice (some ⟨g2, 0, none⟩) n cap2)) (hpp : p ≠ p2) (hpg : p ≠ g2) (hgp : g0 ≠ p2) (hgg : g0 ≠ g2) :
    Calls Try.prog 46 #[.pointer (some ⟨f, 0, none⟩), .pointer (some ⟨f2, 0, none⟩)] w (MergeIs B f p m k n L ws ws2 w) := by
  have c0 : w.cell? ⟨f, 0, none⟩ = some (.int .u64 (m : Int)) := hb.2.1.cell 0 rfl
  have c1 : w.cell? ⟨f, 1, none⟩ = some (.int .u64 (k : Int)) := hb.2.1.cell 1 rfl
  have c2 : w.cell? ⟨f, 2, none⟩ = some (.pointer (some ⟨p, 0, none⟩)) := hb.2.1.cell 2 rfl
  have d0 : w.cell? ⟨f2, 0, none⟩ = some (.int .u64 (m : Int)) := hb2.2.1.cell 0 rfl
  have d1 : w.cell? ⟨f2, 1, none⟩ = some (.int .u64 (k : Int)) := hb2.2.1.cell 1 rfl
  have d2 : w.cell? ⟨f2, 2, none⟩ = some (.pointer (some ⟨p2, 0, none⟩)) := hb2.2.1.cell 2 rfl
  have hmm : ((m : Int) != (m : Int)) = false := by simp
  have hkk : ((k : Int) != (k : Int)) = false := by simp
  have hfl : f < w.heap.size := hb.2.1.lt
  have HU := fun nq => Lib.hid (union_any B B2 p p2 g0 g2 L L2 n ws ws2 cap cap2 (w.drewN nq) (hb.2.2.1.drewN nq) (hb2.2.2.1.drewN nq) hL hL2 hL0 hwl hwn hwl2 hwn2 hBw hcap hg0 hg2 hpp hpg hgp hgg)
  have HB := Lib.hid hb
  have HFP := Lib.hid hb.2.2.2.1
  have HFG : Hid (f ≠ g0) := by
    have h := hb.2.2.2.2 g0
    rw [hwn] at h
    exact Ne.symm (h hg0)
  have HFL := Lib.hid hfl
  clear hb hb2 hwl hwn hwl2 hwn2 hcap hg0 hg2 hpp hpg hgp hgg hfl
  go_enter Try.func46, Try.ntmps46
  go_wp2_with fail
  go_quiet (fail)
  obtain ⟨nq1, rfl⟩ : ∃ x, x = nq := ⟨_, rfl⟩
  go_wp2_with fail
  go_quiet (fail)
  go_wp2_with fail
  obtain ⟨nn, hnn⟩ : ∃ nn, (w.drewN nq1).drewN nq = w.drewN nn := ⟨_, World.drewN_drewN ..⟩
  rw [hnn]
  obtain ⟨wB, hwB⟩ : ∃ wB, wB = w.drewN nn := ⟨_, rfl⟩
  have c2b : wB.cell? ⟨f, 2, none⟩ = some (.pointer (some ⟨p, 0, none⟩)) := by rw [hwB]; exact c2
  have d2b : wB.cell? ⟨f2, 2, none⟩ = some (.pointer (some ⟨p2, 0, none⟩)) := by rw [hwB]; exact d2
  have HWB := Lib.hid hwB
  rw [← hwB]
  clear hnn hwB c0 c1 c2 d0 d1 d2
  refine wp_region_still_tail 8 (by kernel_rfl) (by kernel_rfl) ?_
  simp only [List.take_succ_cons, List.take_zero, List.drop_succ_cons, List.drop_zero]
  repeat still_step
  refine wpStill_nil ?_
  change wpList _ _ _ _ _ wB.drew
  go_wp2_with fail
  have HUB : Hid (Calls Try.prog 69 #[.pointer (some ⟨p, 0, none⟩), .pointer (some ⟨p2, 0, none⟩)] wB.drew (UnionIs B p g0 n L ws ws2 wB.drew)) := by
    have h := (HU (nn + 1)).out
    rw [HWB.out]
    exact h
  refine HUB.out.mono ?_
  rintro e w7 ⟨rfl, ws', cap', L', g', j0, j1, j2, j3, j4, j5, j6, j7, j8⟩
  have HJ0 := Lib.hid j0
  have HJ1 := Lib.hid j1
  have HJ2 := Lib.hid j2
  have HJ3 := Lib.hid j3
  have HJ4 := Lib.hid j4
  have HJ5 := Lib.hid j5
  have HJ6 := Lib.hid j6
  have HJ7 := Lib.hid j7
  have HJ8 := Lib.hid j8
  clear j0 j1 j2 j3 j4 j5 j6 j7 j8
  go_wp2_with fail
  go_ret
  have hsz : wB.drew.heap.size = w.heap.size := by rw [HWB.out]; rfl
  have hfb : w7.heap[f]? = w.heap[f]? := by
    rw [HJ8.out f (by rw [hsz]; exact HFL.out) HFP.out HFG.out, HWB.out]
    rfl
  have hbw : Below B w wB.drew := by rw [HWB.out]; exact (below_drewN (Below.refl _ _) nn).drew
  refine ⟨rfl, ws', cap', L', HJ0.out, ⟨HB.out.1, hfb.trans HB.out.2.1, HJ1.out, HFP.out, fun g hg e => ?_⟩, HJ2.out, HJ3.out, hbw.trans HJ6.out, by have := HJ7.out; omega⟩
  rw [HJ2.out, HJ4.out] at hg
  have hgg : g' = g := by injection hg with hg; injection hg with hg; injection hg with hg; injection hg
  rcases HJ5.out with h | h
  · exact HFG.out (by rw [← e, ← hgg, h])
  · have := HFL.out; rw [hsz] at h; omega
end Go.Proofs.Ytbcbkieebelleaa
