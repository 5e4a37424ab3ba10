/- The walk of spec.BSPut where it changes something. -/
import Derived.Test.YtbgmkojiklphmaaBsBools
namespace Go.Proofs.Ytbgmkojiklphmaa
set_option linter.unusedVariables false
open Go.RowKit

/-- the bits that BSPut goes over -/
def base (how : Nat) (bs : List Bool) (t : Nat) : List Bool := if how = 0 then bs else Bsm.grow bs t

theorem ownsRow_some {w : World} {B : Nat} {e : TypeId} {size : Nat} {p : Option Addr} {m cap n : Nat} {xs : List Value} (h : w.ownsRow B e size (.slice p m cap) n xs) (hn : 0 < n) : ∃ g, p = some ⟨g, 0, none⟩ ∧ B ≤ g := by
  rcases h.2 with ⟨h2, h3⟩ | ⟨g, cap, cur, hv, hg, _⟩
  · omega
  · simp at hv; exact ⟨g, hv.1, hg⟩

theorem putAt0 (b : List Bool) (i : Nat) : putAt 0 b i = false := rfl
theorem putAt1 (b : List Bool) (i : Nat) : putAt 1 b i = true := rfl
theorem putAt2 (b : List Bool) (i : Nat) : putAt 2 b i = !(b.getD i false) := rfl

def PutLoop (how : Nat) (b : List Bool) (f N : Nat) (p : Option Addr) (m cap : Nat) (W : World) (k : Nat) (idx : Value) (wr : World) : Prop :=
  ∃ i : Nat, idx = .int .i64 ((f : Int) + (i : Int)) ∧ i + k = N ∧
    wr.ownsRow W.heap.size 4 1 (.slice p m cap) m (bools (put how b f i)) ∧ Below W.heap.size W wr

set_option maxHeartbeats 4000000 in
theorem put_some (v : Value) (bs : List Bool) (f t how : Nat) (w : World) (hv : Sl w v (bools bs)) (hn : bs.length ≤ 100000) (hf : f ≤ 100000) (ht : t ≤ 100000) (hft : f < t) (hh : how ≤ 2) :
    Calls Try.prog 21 #[v, .int .i64 (f : Int), .int .i64 (t : Int), .int .i64 (how : Int)] w
      fun e w' => ∃ v', e = .returned v' ∧ w'.ownsRow w.heap.size 4 1 v' (base how bs t).length (bools (put how (base how bs t) f (min t (base how bs t).length - f))) ∧ Below w.heap.size w w' := by
  have hvv : ∃ a n cap, v = .slice a n cap := by obtain ⟨a, n, cap, rfl, _⟩ := hv; exact ⟨a, n, cap, rfl⟩
  obtain ⟨a, m, cap, rfl⟩ := hvv
  have HV := Lib.hid hv
  have HNB := Lib.hid hn
  clear hv hn
  have hh3 : how = 0 ∨ how = 1 ∨ how = 2 := by omega
  rcases hh3 with rfl | rfl | rfl
  · go_enter Try.func21, Try.ntmps21
    obtain ⟨W, rfl⟩ : ∃ W : World, W = w := ⟨_, rfl⟩
    have hbW : Below W.heap.size W W := Below.refl _ _
    have hVB := HV.out
    obtain ⟨a2, rfl⟩ : ∃ a2 : Option Addr, a2 = a := ⟨_, rfl⟩
    obtain ⟨m2, rfl⟩ : ∃ m2 : Nat, m2 = m := ⟨_, rfl⟩
    obtain ⟨cap2, rfl⟩ : ∃ cap2 : Nat, cap2 = cap := ⟨_, rfl⟩
    obtain ⟨b', rfl⟩ : ∃ b' : List Bool, b' = bs := ⟨_, rfl⟩
    have hlb : b'.length ≤ 200000 := by have := HNB.out; omega
    have hbase : base 0 b' t = b' := rfl
    have HBASE := Lib.hid hbase
    clear hbase
    have hb0 : Below W.heap.size W (W.alloc (.cells #[] 4)) := (Below.refl _ _).alloc (Nat.le_refl _) _
    have HV2 := Lib.hid (hVB.below rfl hb0)
    have HVB := Lib.hid hVB
    have hl2 := hVB.length
    rw [bools_len] at hl2
    have HL2 := Lib.hid hl2
    clear hVB hl2
    have HBL := Lib.hid (bools_len b')
    go_wp2_with (at_builtin; refine wpList_appendSl rfl _ _ 32 32 rfl W.heap.size 4 4 (.bool false) 1 Try.underlying32 Try.underlying32 info_bool rfl _ 0 [] rfl (empty_own W W.heap.size 4 (Nat.le_refl _)) _ _ rfl HV2.out (bool_cells _) (by rw [HBL.out]; unfold maxLen; omega) (by rw [HBL.out]; omega) (by simp) ?_; intro p1 m1 cap1 w1 hown1 _ hb1)
    rw [HBL.out, Nat.zero_add, List.nil_append] at hown1
    have hm1 := ownsRow_len hown1
    rw [HL2.out] at hm1 hown1 hlb
    subst hm1
    have hbw1 : Below W.heap.size W w1 := hb0.trans (hb1.mono (by simp))
    have hsz1 : W.heap.size ≤ w1.heap.size := by have := hb1.size; rw [World.size_alloc] at this; omega
    clear hb1 hb0
    go_loopg [10] (min t m1 - f) (fun k idx wr => PutLoop 0 b' f (min t m1 - f) p1 m1 cap1 W k idx wr)
    case atStart => exact ⟨0, by simp, by omega, by simpa [put] using hown1, hbw1⟩
    case round =>
      obtain ⟨i, rfl, hik, hown, hbel⟩ := hrel
      clear hown1 hbw1
      have HO := Lib.hid hown
      clear hown
      by_cases hi : i < min t m1 - f
      · have hi1 : f + i < t := by omega
        have hi2 : f + i < m1 := by omega
        have hi3 : 0 ≤ (f : Int) + (i : Int) := by omega
        have hi4 : (f : Int) + (i : Int) < (m1 : Int) := by omega
        obtain ⟨g, rfl, hg⟩ := ownsRow_some HO.out (by omega)
        have h2 := HO.out.cellAt (f + i) (by omega)
        rw [bools_at _ _ (by rw [put_len, HL2.out]; exact hi2)] at h2
        have h3 := HO.out.frozenAt (f + i)
        have hVB := HVB.out
        obtain ⟨a', n', cap', e, hl, hc, hm, hr⟩ := hVB
        simp only [Value.slice.injEq] at e
        obtain ⟨rfl, rfl, rfl⟩ := e
        obtain ⟨b, off, rfl, hcell⟩ := hr (by omega)
        have h1 := hcell (f + i) _ (bools_at b' (f + i) (by rw [HL2.out]; exact hi2))
        rw [← hbel.cell (World.block_lt_of_cell? W _ h1)] at h1
        obtain ⟨X, hX⟩ : ∃ X, b'.getD (f + i) false = X := ⟨_, rfl⟩
        obtain ⟨Y, hY⟩ : ∃ Y, (put 0 b' f i).getD (f + i) false = Y := ⟨_, rfl⟩
        rw [hX] at h1
        rw [hY] at h2
        have h4 := HO.out.stored (f + i) (.bool (putAt 0 b' (f + i)))
        have e4 : (bools (put 0 b' f i)).set (f + i) (.bool (putAt 0 b' (f + i))) = bools (put 0 b' f (i + 1)) := by simp [put, bools, List.map_set]
        rw [e4] at h4
        have e5 : putAt 0 b' (f + i) = false := by rw [putAt0]
        rw [e5] at h4
        have H4 := Lib.hid h4
        clear hr hcell hX hY h4 e4 e5 hl hc hm
        cases gk with
        | zero => omega
        | succ k =>
          go_wp2_with fail
          go_roundg k
          case measure => omega
          case rel => exact ⟨i + 1, congrArg (Value.int .i64) (by omega), by omega, H4.out.1, hbel.setCell hg _⟩
      · have hiN : i = min t m1 - f := by omega
        have HIN := Lib.hid hiN
        have hout : ¬ (f + i < t) ∨ (f + i < t ∧ m1 ≤ f + i) := by omega
        clear hiN
        rcases hout with hq | ⟨hq1, hq2⟩
        all_goals
          go_wp2_with fail
          go_ret
          refine ⟨_, rfl, ?_, hbel⟩
          rw [HBASE.out, HL2.out, ← HIN.out]
          exact ownsRow_weaken HO.out (Nat.le_refl _)
  · go_enter Try.func21, Try.ntmps21
    go_wp2_with fail
    refine (grow_any _ bs t _ HV.out (by have := HNB.out; omega) (by omega)).mono ?_
    rintro e W ⟨vb, rfl, hg, hbW⟩
    have hVB := Sl.of_owns hg
    have hvv : ∃ a n cap, vb = .slice a n cap := by obtain ⟨a, n, cap, rfl, _⟩ := hVB; exact ⟨a, n, cap, rfl⟩
    obtain ⟨a2, m2, cap2, rfl⟩ := hvv
    obtain ⟨b', hb'⟩ : ∃ b', Bsm.grow bs t = b' := ⟨_, rfl⟩
    have hlb : b'.length ≤ 200000 := by rw [← hb', Bsm.grow_len]; have := HNB.out; omega
    have hbase : base 1 bs t = b' := hb'
    rw [hb'] at hVB
    clear hg hb'
    have HBASE := Lib.hid hbase
    clear hbase
    have hb0 : Below W.heap.size W (W.alloc (.cells #[] 4)) := (Below.refl _ _).alloc (Nat.le_refl _) _
    have HV2 := Lib.hid (hVB.below rfl hb0)
    have HVB := Lib.hid hVB
    have hl2 := hVB.length
    rw [bools_len] at hl2
    have HL2 := Lib.hid hl2
    clear hVB hl2
    have HBL := Lib.hid (bools_len b')
    go_wp2_with (at_builtin; refine wpList_appendSl rfl _ _ 32 32 rfl W.heap.size 4 4 (.bool false) 1 Try.underlying32 Try.underlying32 info_bool rfl _ 0 [] rfl (empty_own W W.heap.size 4 (Nat.le_refl _)) _ _ rfl HV2.out (bool_cells _) (by rw [HBL.out]; unfold maxLen; omega) (by rw [HBL.out]; omega) (by simp) ?_; intro p1 m1 cap1 w1 hown1 _ hb1)
    rw [HBL.out, Nat.zero_add, List.nil_append] at hown1
    have hm1 := ownsRow_len hown1
    rw [HL2.out] at hm1 hown1 hlb
    subst hm1
    have hbw1 : Below W.heap.size W w1 := hb0.trans (hb1.mono (by simp))
    have hsz1 : W.heap.size ≤ w1.heap.size := by have := hb1.size; rw [World.size_alloc] at this; omega
    clear hb1 hb0
    go_loopg [10] (min t m1 - f) (fun k idx wr => PutLoop 1 b' f (min t m1 - f) p1 m1 cap1 W k idx wr)
    case atStart => exact ⟨0, by simp, by omega, by simpa [put] using hown1, hbw1⟩
    case round =>
      obtain ⟨i, rfl, hik, hown, hbel⟩ := hrel
      clear hown1 hbw1
      have HO := Lib.hid hown
      clear hown
      by_cases hi : i < min t m1 - f
      · have hi1 : f + i < t := by omega
        have hi2 : f + i < m1 := by omega
        have hi3 : 0 ≤ (f : Int) + (i : Int) := by omega
        have hi4 : (f : Int) + (i : Int) < (m1 : Int) := by omega
        obtain ⟨g, rfl, hg⟩ := ownsRow_some HO.out (by omega)
        have h2 := HO.out.cellAt (f + i) (by omega)
        rw [bools_at _ _ (by rw [put_len, HL2.out]; exact hi2)] at h2
        have h3 := HO.out.frozenAt (f + i)
        have hVB := HVB.out
        obtain ⟨a', n', cap', e, hl, hc, hm, hr⟩ := hVB
        simp only [Value.slice.injEq] at e
        obtain ⟨rfl, rfl, rfl⟩ := e
        obtain ⟨b, off, rfl, hcell⟩ := hr (by omega)
        have h1 := hcell (f + i) _ (bools_at b' (f + i) (by rw [HL2.out]; exact hi2))
        rw [← hbel.cell (World.block_lt_of_cell? W _ h1)] at h1
        obtain ⟨X, hX⟩ : ∃ X, b'.getD (f + i) false = X := ⟨_, rfl⟩
        obtain ⟨Y, hY⟩ : ∃ Y, (put 1 b' f i).getD (f + i) false = Y := ⟨_, rfl⟩
        rw [hX] at h1
        rw [hY] at h2
        have h4 := HO.out.stored (f + i) (.bool (putAt 1 b' (f + i)))
        have e4 : (bools (put 1 b' f i)).set (f + i) (.bool (putAt 1 b' (f + i))) = bools (put 1 b' f (i + 1)) := by simp [put, bools, List.map_set]
        rw [e4] at h4
        have e5 : putAt 1 b' (f + i) = true := by rw [putAt1]
        rw [e5] at h4
        have H4 := Lib.hid h4
        clear hr hcell hX hY h4 e4 e5 hl hc hm
        cases gk with
        | zero => omega
        | succ k =>
          go_wp2_with fail
          go_roundg k
          case measure => omega
          case rel => exact ⟨i + 1, congrArg (Value.int .i64) (by omega), by omega, H4.out.1, hbel.setCell hg _⟩
      · have hiN : i = min t m1 - f := by omega
        have HIN := Lib.hid hiN
        have hout : ¬ (f + i < t) ∨ (f + i < t ∧ m1 ≤ f + i) := by omega
        clear hiN
        rcases hout with hq | ⟨hq1, hq2⟩
        all_goals
          go_wp2_with fail
          go_ret
          refine ⟨_, rfl, ?_, hbW.trans (hbel.mono hbW.size)⟩
          rw [HBASE.out, HL2.out, ← HIN.out]
          exact ownsRow_weaken HO.out hbW.size
  · go_enter Try.func21, Try.ntmps21
    go_wp2_with fail
    refine (grow_any _ bs t _ HV.out (by have := HNB.out; omega) (by omega)).mono ?_
    rintro e W ⟨vb, rfl, hg, hbW⟩
    have hVB := Sl.of_owns hg
    have hvv : ∃ a n cap, vb = .slice a n cap := by obtain ⟨a, n, cap, rfl, _⟩ := hVB; exact ⟨a, n, cap, rfl⟩
    obtain ⟨a2, m2, cap2, rfl⟩ := hvv
    obtain ⟨b', hb'⟩ : ∃ b', Bsm.grow bs t = b' := ⟨_, rfl⟩
    have hlb : b'.length ≤ 200000 := by rw [← hb', Bsm.grow_len]; have := HNB.out; omega
    have hbase : base 2 bs t = b' := hb'
    rw [hb'] at hVB
    clear hg hb'
    have HBASE := Lib.hid hbase
    clear hbase
    have hb0 : Below W.heap.size W (W.alloc (.cells #[] 4)) := (Below.refl _ _).alloc (Nat.le_refl _) _
    have HV2 := Lib.hid (hVB.below rfl hb0)
    have HVB := Lib.hid hVB
    have hl2 := hVB.length
    rw [bools_len] at hl2
    have HL2 := Lib.hid hl2
    clear hVB hl2
    have HBL := Lib.hid (bools_len b')
    go_wp2_with (at_builtin; refine wpList_appendSl rfl _ _ 32 32 rfl W.heap.size 4 4 (.bool false) 1 Try.underlying32 Try.underlying32 info_bool rfl _ 0 [] rfl (empty_own W W.heap.size 4 (Nat.le_refl _)) _ _ rfl HV2.out (bool_cells _) (by rw [HBL.out]; unfold maxLen; omega) (by rw [HBL.out]; omega) (by simp) ?_; intro p1 m1 cap1 w1 hown1 _ hb1)
    rw [HBL.out, Nat.zero_add, List.nil_append] at hown1
    have hm1 := ownsRow_len hown1
    rw [HL2.out] at hm1 hown1 hlb
    subst hm1
    have hbw1 : Below W.heap.size W w1 := hb0.trans (hb1.mono (by simp))
    have hsz1 : W.heap.size ≤ w1.heap.size := by have := hb1.size; rw [World.size_alloc] at this; omega
    clear hb1 hb0
    go_loopg [10] (min t m1 - f) (fun k idx wr => PutLoop 2 b' f (min t m1 - f) p1 m1 cap1 W k idx wr)
    case atStart => exact ⟨0, by simp, by omega, by simpa [put] using hown1, hbw1⟩
    case round =>
      obtain ⟨i, rfl, hik, hown, hbel⟩ := hrel
      clear hown1 hbw1
      have HO := Lib.hid hown
      clear hown
      by_cases hi : i < min t m1 - f
      · have hi1 : f + i < t := by omega
        have hi2 : f + i < m1 := by omega
        have hi3 : 0 ≤ (f : Int) + (i : Int) := by omega
        have hi4 : (f : Int) + (i : Int) < (m1 : Int) := by omega
        obtain ⟨g, rfl, hg⟩ := ownsRow_some HO.out (by omega)
        have h2 := HO.out.cellAt (f + i) (by omega)
        rw [bools_at _ _ (by rw [put_len, HL2.out]; exact hi2)] at h2
        have h3 := HO.out.frozenAt (f + i)
        have hVB := HVB.out
        obtain ⟨a', n', cap', e, hl, hc, hm, hr⟩ := hVB
        simp only [Value.slice.injEq] at e
        obtain ⟨rfl, rfl, rfl⟩ := e
        obtain ⟨b, off, rfl, hcell⟩ := hr (by omega)
        have h1 := hcell (f + i) _ (bools_at b' (f + i) (by rw [HL2.out]; exact hi2))
        rw [← hbel.cell (World.block_lt_of_cell? W _ h1)] at h1
        obtain ⟨X, hX⟩ : ∃ X, b'.getD (f + i) false = X := ⟨_, rfl⟩
        obtain ⟨Y, hY⟩ : ∃ Y, (put 2 b' f i).getD (f + i) false = Y := ⟨_, rfl⟩
        rw [hX] at h1
        rw [hY] at h2
        have h4 := HO.out.stored (f + i) (.bool (putAt 2 b' (f + i)))
        have e4 : (bools (put 2 b' f i)).set (f + i) (.bool (putAt 2 b' (f + i))) = bools (put 2 b' f (i + 1)) := by simp [put, bools, List.map_set]
        rw [e4] at h4
        have e5 : putAt 2 b' (f + i) = !X := by rw [putAt2, hX]
        rw [e5] at h4
        have H4 := Lib.hid h4
        clear hr hcell hX hY h4 e4 e5 hl hc hm
        cases gk with
        | zero => omega
        | succ k =>
          go_wp2_with fail
          go_roundg k
          case measure => omega
          case rel => exact ⟨i + 1, congrArg (Value.int .i64) (by omega), by omega, H4.out.1, hbel.setCell hg _⟩
      · have hiN : i = min t m1 - f := by omega
        have HIN := Lib.hid hiN
        have hout : ¬ (f + i < t) ∨ (f + i < t ∧ m1 ≤ f + i) := by omega
        clear hiN
        rcases hout with hq | ⟨hq1, hq2⟩
        all_goals
          go_wp2_with fail
          go_ret
          refine ⟨_, rfl, ?_, hbW.trans (hbel.mono hbW.size)⟩
          rw [HBASE.out, HL2.out, ← HIN.out]
          exact ownsRow_weaken HO.out hbW.size
end Go.Proofs.Ytbgmkojiklphmaa
