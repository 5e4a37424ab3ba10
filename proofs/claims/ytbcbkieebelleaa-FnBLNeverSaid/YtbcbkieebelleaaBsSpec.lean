/- Walks of the references for bitsets. -/
import Derived.Test.YtbcbkieebelleaaRows
import Derived.Test.YtbcbkieebelleaaSl
import Derived.Test.YtbcbkieebelleaaBsMath
import Derived.WalkSpells
import Derived.WalkLawsBesides
import Derived.Deep.LoopGhost
import Derived.BigQuiet
import Derived.Deep.QuietTactic
namespace Go.Proofs.Ytbcbkieebelleaa
set_option linter.unusedVariables false
open Go.RowKit


theorem info_u64 : (Try.prog.info? 22).map (fun i => (i.zero, i.size, i.bytes)) = some (some (.int .u64 0), 1, 8) := by kernel_rfl
theorem info_bool : (Try.prog.info? 4).map (fun i => (i.zero, i.size, i.bytes)) = some (some (.bool false), 1, 1) := by kernel_rfl

theorem ownsRow_weaken {w : World} {B B' : Nat} {e : TypeId} {size : Nat} {v : Value} {n : Nat} {xs : List Value} (h : w.ownsRow B e size v n xs) (hB : B' ≤ B) : w.ownsRow B' e size v n xs := by
  refine ⟨h.1, ?_⟩
  rcases h.2 with h2 | ⟨g, cap, cur, hv, hg, r⟩
  · exact .inl h2
  · exact .inr ⟨g, cap, cur, hv, Nat.le_trans hB hg, r⟩

def u64s (l : List Nat) : List Value := l.map fun (x : Nat) => Value.int .u64 (x : Int)
theorem u64s_len (l : List Nat) : (u64s l).length = l.length := by simp [u64s]
theorem u64s_at (l : List Nat) (i : Nat) (h : i < l.length) : (u64s l)[i]? = some (.int .u64 ((l.getD i 0 : Nat) : Int)) := by
  simp [u64s, List.getElem?_eq_getElem h]
theorem u64s_append (l : List Nat) (x : Nat) : u64s (l ++ [x]) = u64s l ++ [.int .u64 (x : Int)] := by simp [u64s]
def bools (l : List Bool) : List Value := l.map Value.bool
theorem bools_len (l : List Bool) : (bools l).length = l.length := by simp [bools]
theorem bools_at (l : List Bool) (i : Nat) (h : i < l.length) : (bools l)[i]? = some (.bool (l.getD i false)) := by
  simp [bools, List.getElem?_eq_getElem h]

/-- v is an impl.Bits with the length and the places of bs -/
def IsBits (w : World) (v : Value) (bs : List Bool) : Prop := ∃ s, v = .agg #[.int .u64 (bs.length : Int), s] ∧ Sl w s (u64s (Bsm.pos bs))
/-- the same, the places in memory from block B on that the call made -/
def OwnBits (B : Nat) (w : World) (v : Value) (bs : List Bool) : Prop := ∃ p m cap, v = .agg #[.int .u64 (bs.length : Int), .slice p m cap] ∧ w.ownsRow B 22 1 (.slice p m cap) (Bsm.pos bs).length (u64s (Bsm.pos bs))
theorem OwnBits.is {B : Nat} {w : World} {v : Value} {bs : List Bool} (h : OwnBits B w v bs) : IsBits w v bs := by
  obtain ⟨p, m, cap, rfl, h⟩ := h
  exact ⟨_, rfl, Sl.of_owns h⟩
theorem OwnBits.set {B : Nat} {w : World} {v : Value} {bs : List Bool} (h : OwnBits B w v bs) {a : Addr} (ha : a.block < B) (u : Value) : OwnBits B (w.setCell a u) v bs := by
  obtain ⟨p, m, cap, rfl, h⟩ := h
  exact ⟨p, m, cap, rfl, ownsRow_setCell_below h ha u⟩
theorem OwnBits.weaken {B B' : Nat} {w : World} {v : Value} {bs : List Bool} (h : OwnBits B w v bs) (hB : B' ≤ B) : OwnBits B' w v bs := by
  obtain ⟨p, m, cap, rfl, h⟩ := h
  exact ⟨p, m, cap, rfl, ownsRow_weaken h hB⟩
theorem IsBits.drew {w : World} {v : Value} {bs : List Bool} (h : IsBits w v bs) : IsBits w.drew v bs := by
  obtain ⟨s, rfl, a, n, cap, rfl, h1, h2, h3, h4⟩ := h
  exact ⟨_, rfl, a, n, cap, rfl, h1, h2, h3, h4⟩
theorem IsBits.below {w w' : World} {v : Value} {bs : List Bool} {B : Nat} (h : IsBits w v bs) (hB : B = w.heap.size) (hb : Below B w w') : IsBits w' v bs := by
  obtain ⟨s, rfl, h⟩ := h
  exact ⟨s, rfl, h.below hB hb⟩

set_option maxHeartbeats 400000 in
theorem fits_any (L : Int) (a : Option Addr) (n cap : Nat) (w : World) (hn : n ≤ maxLen) :
    Calls Try.prog 11 #[.agg #[.int .u64 L, .slice a n cap]] w fun e w' => e = .returned (.bool (decide ((n : Int) ≤ 2147483647))) ∧ Below w.heap.size w w' := by
  unfold maxLen at hn
  by_cases h : (n : Int) ≤ 2147483647
  · have h2 := Lib.hid h
    have h3 : decide ((n : Int) ≤ 2147483647) = true := by simpa using h
    rw [h3]
    clear h3
    go_enter Try.func11, Try.ntmps11
    go_wp2_with fail
    go_ret
    exact ⟨rfl, (Below.refl _ _).alloc (Nat.le_refl _) _⟩
  · have h3 : decide ((n : Int) ≤ 2147483647) = false := by simpa using h
    rw [h3]
    clear h3
    go_enter Try.func11, Try.ntmps11
    go_wp2_with fail
    go_ret
    exact ⟨rfl, (Below.refl _ _).alloc (Nat.le_refl _) _⟩

/-- the loop of BSList -/
def ListRel (xs ys : List Nat) (w : World) (n k : Nat) (idx : Value) (wr : World) : Prop :=
  ∃ i : Nat, idx = .int .i64 (i : Int) ∧ i + k = n ∧ (∀ j, j < i → xs.getD j 0 = ys.getD j 0) ∧ ∃ nq, wr = w.drewN nq

theorem list_eq (xs ys : List Nat) (hl : xs.length = ys.length) (h : ∀ j, j < xs.length → xs.getD j 0 = ys.getD j 0) : xs = ys := by
  apply List.ext_getElem hl
  intro j h1 h2
  have := h j h1
  simpa [h1, h2] using this

set_option maxHeartbeats 1000000 in
theorem list_any (v u : Value) (xs ys : List Nat) (w : World) (hv : Sl w v (u64s xs)) (hu : Sl w u (u64s ys)) (bb : Bool) (hb : decide (xs = ys) = bb) :
    Calls Try.prog 38 #[v, u] w fun e w' => e = .returned (.bool bb) ∧ ∃ nq, w' = w.drewN nq := by
  obtain ⟨a, n, cap, rfl, hl, hc, hm, hr⟩ := hv
  obtain ⟨a2, n2, cap2, rfl, hl2, hc2, hm2, hr2⟩ := hu
  rw [u64s_len] at hl hl2
  unfold maxLen at hm hm2
  have HB := Lib.hid hb
  have HL := Lib.hid hl
  have HL2 := Lib.hid hl2
  clear hb hl hl2
  by_cases hn : n = n2
  · subst hn
    go_enter Try.func38, Try.ntmps38
    go_wp2_with fail
    go_loopg [5] n (fun k idx wr => ListRel xs ys w n k idx wr)
    case atStart => exact ⟨0, rfl, by omega, fun j hj => absurd hj (Nat.not_lt_zero _), 0, rfl⟩
    case round =>
      obtain ⟨i, rfl, hik, hsame, nq, rfl⟩ := hrel
      have HS := Lib.hid hsame
      clear hsame
      by_cases hi : i < n
      · obtain ⟨b, off, rfl, hcell⟩ := hr (by omega)
        obtain ⟨b2, off2, rfl, hcell2⟩ := hr2 (by omega)
        have h1 := hcell i _ (u64s_at xs i (by rw [HL.out]; exact hi))
        have h2 := hcell2 i _ (u64s_at ys i (by rw [HL2.out]; exact hi))
        obtain ⟨X, hX⟩ : ∃ X, xs.getD i 0 = X := ⟨_, rfl⟩
        obtain ⟨Y, hY⟩ : ∃ Y, ys.getD i 0 = Y := ⟨_, rfl⟩
        rw [hX] at h1
        rw [hY] at h2
        have HX := Lib.hid hX
        have HY := Lib.hid hY
        clear hr hr2 hcell hcell2 hX hY
        cases gk with
        | zero => omega
        | succ k =>
          by_cases e : X = Y
          · subst e
            go_wp2_with fail
            go_quiet (fail)
            go_wp2_with fail
            go_roundg k
            case measure => omega
            case rel => exact ⟨i + 1, by go_num, by omega, fun j hj => by
                          by_cases e : j = i
                          · subst e; rw [HX.out, HY.out]
                          · exact HS.out j (by omega), _, rfl⟩
          · have hne : ((X : Int) != (Y : Int)) = true := by simp; omega
            have E := Lib.hid e
            clear e
            go_wp2_with fail
            go_quiet (fail)
            go_wp2_with fail
            go_ret
            refine ⟨ret_bool ?_, _, World.drewN_drewN ..⟩
            rw [← HB.out]
            have : ¬ xs = ys := fun e => E.out (by rw [← HX.out, ← HY.out, e])
            simp [this]
      · go_wp2_with fail
        go_ret
        refine ⟨ret_bool ?_, _, rfl⟩
        rw [← HB.out]
        have : xs = ys := list_eq xs ys (by rw [HL.out, HL2.out]) (fun j hj => HS.out j (by rw [HL.out] at hj; omega))
        simp [this]
  · have hne : ((n : Int) != (n2 : Int)) = true := by simp; omega
    go_enter Try.func38, Try.ntmps38
    go_wp2_with fail
    go_ret
    refine ⟨ret_bool ?_, 0, rfl⟩
    rw [← HB.out]
    have : ¬ xs = ys := fun e => hn (by rw [← HL.out, ← HL2.out, e])
    simp [this]

set_option maxHeartbeats 1000000 in
/-- BSSame of two bitsets with the same bits -/
theorem same_yes (v u : Value) (bs : List Bool) (w : World) (hv : IsBits w v bs) (hu : IsBits w u bs) :
    Calls Try.prog 13 #[v, u] w fun e w' => e = .returned (.bool true) ∧ Below w.heap.size w w' := by
  obtain ⟨s, rfl, hs⟩ := hv
  obtain ⟨t, rfl, ht⟩ := hu
  have hb : Below w.heap.size w ((w.alloc (.cells #[.int .u64 (bs.length : Int), s] 25)).alloc (.cells #[.int .u64 (bs.length : Int), t] 25)) :=
    ((Below.refl _ _).alloc (Nat.le_refl _) _).alloc (by simp) _
  have HS := Lib.hid (hs.below rfl hb)
  have HT := Lib.hid (ht.below rfl hb)
  obtain ⟨a, n, cap, rfl, _⟩ := hs
  obtain ⟨a2, n2, cap2, rfl, _⟩ := ht
  have HB := Lib.hid hb
  clear hb
  go_enter Try.func13, Try.ntmps13
  go_wp2_with fail
  refine (list_any _ _ _ _ _ HS.out HT.out true (by simp)).mono ?_
  rintro e w' ⟨rfl, nq, rfl⟩
  go_wp2_with fail
  go_ret
  exact ⟨rfl, below_drewN HB.out _⟩

theorem empty_own (w : World) (B : Nat) (e : TypeId) (hB : B ≤ w.heap.size) : (w.alloc (.cells #[] e)).ownsRow B e 1 (.slice (some ⟨w.heap.size, 0, none⟩) 0 0) 0 [] :=
  World.ownsRow_made w #[] 0 hB (Nat.zero_le _) rfl

/-- the loop of BSMake -/
def MakeRel (bs : List Bool) (w : World) (n k : Nat) (idx : Value) (wr : World) : Prop :=
  ∃ (i : Nat) (p : Option Addr) (m cap : Nat) (s : Value), s = .slice p m cap ∧ idx = .int .i64 (i : Int) ∧ i + k = n ∧ Blk wr (w.heap.size + 1) 25 #[.int .u64 (n : Int), s] ∧ Blk wr w.heap.size 25 #[.int .u64 0, .slice none 0 0] ∧
    wr.ownsRow (w.heap.size + 2) 22 1 s (Bsm.posn bs i).length (u64s (Bsm.posn bs i)) ∧ Below w.heap.size w wr ∧ w.heap.size + 2 ≤ wr.heap.size

set_option maxHeartbeats 1000000 in
theorem make_any (v : Value) (bs : List Bool) (w : World) (hv : Sl w v (bools bs)) (hn : bs.length ≤ 1000000) :
    Calls Try.prog 17 #[v] w fun e w' => ∃ v', e = .returned v' ∧ OwnBits w.heap.size w' v' bs ∧ Below w.heap.size w w' := by
  obtain ⟨a, n, cap, rfl, hl, hc, hm, hr⟩ := hv
  rw [bools_len] at hl
  have hn2 : n ≤ 1000000 := by omega
  have HL := Lib.hid hl
  clear hl hm hn
  go_enter Try.func17, Try.ntmps17
  go_wp2_with fail
  go_loopg [4] n (fun k idx wr => MakeRel bs w n k idx wr)
  case atStart =>
    refine ⟨0, none, 0, 0, _, rfl, rfl, by omega, ?_, (Blk.new _ _ _).alloc _, World.ownsRow_nil _ _ _ _, ((Below.refl _ _).alloc (Nat.le_refl _) _).alloc (by simp) _, by simp⟩
    have := Blk.new (w.alloc (.cells #[.int .u64 0, .slice none 0 0] 25)) 25 #[.int .u64 (n : Int), .slice none 0 0]
    simpa using this
  case round =>
    obtain ⟨i, p, m, cap0, s, hs, rfl, hik, hblk, hres, hown, hbel, hsz⟩ := hrel
    have c0 : wr.cell? ⟨w.heap.size + 1, 0, none⟩ = some (.int .u64 (n : Int)) := hblk.cell 0 rfl
    have c1 : wr.cell? ⟨w.heap.size + 1, 1, none⟩ = some s := hblk.cell 1 rfl
    have f1 := hblk.free 1
    have r0 : wr.cell? ⟨w.heap.size, 0, none⟩ = some (.int .u64 0) := hres.cell 0 rfl
    have r1 : wr.cell? ⟨w.heap.size, 1, none⟩ = some (.slice none 0 0) := hres.cell 1 rfl
    have g0 := hres.free 0
    have g1 := hres.free 1
    have HBK := Lib.hid hblk
    have HRS := Lib.hid hres
    have HSS := Lib.hid hs
    clear hblk hres hs
    by_cases hi : i < n
    · obtain ⟨b, off, rfl, hcell⟩ := hr (by omega)
      have h1 := hcell i _ (bools_at bs i (by rw [HL.out]; exact hi))
      have h2 : wr.cell? ⟨b, off + i, none⟩ = some (.bool (bs.getD i false)) := by
        rw [hbel.cell (World.block_lt_of_cell? w _ h1)]
        exact h1
      obtain ⟨X, hX⟩ : ∃ X, bs.getD i false = X := ⟨_, rfl⟩
      rw [hX] at h2
      have HX := Lib.hid hX
      have HO := Lib.hid hown
      clear hr hcell hX h1 hown
      cases gk with
      | zero => omega
      | succ k =>
        cases X
        · go_wp2_with fail
          go_roundg k
          case measure => omega
          case rel =>
            have e : Bsm.posn bs (i + 1) = Bsm.posn bs i := by simp only [Bsm.posn]; rw [HX.out]; simp
            exact ⟨i + 1, p, m, cap0, s, HSS.out, by go_num, by omega, HBK.out, HRS.out, by rw [e]; exact HO.out, hbel, hsz⟩
        · have hpl := Bsm.posn_len bs i
          have hm1 : (Bsm.posn bs i).length + 1 ≤ maxLen := by unfold maxLen; omega
          go_wp2_with (at_builtin; refine wpList_append1 rfl _ _ 23 rfl (w.heap.size + 2) 22 (.int .u64 0) 8 Try.underlying23 info_u64 rfl s (Bsm.posn bs i).length (u64s (Bsm.posn bs i)) rfl HO.out _ rfl rfl hm1 (by omega) hsz ?_; intro g cap1 w1 hown1 hg1 hb1; have d1 : w1.frozen? ⟨w.heap.size + 1, 1, none⟩ = false := (hb1.frozen (by simp)).trans f1; have d2 : w1.cell? ⟨w.heap.size + 1, 1, none⟩ = some s := (hb1.cell (by simp)).trans c1)
          go_roundg k
          case measure => omega
          case rel =>
            have e : Bsm.posn bs (i + 1) = Bsm.posn bs i ++ [i] := by simp only [Bsm.posn]; rw [HX.out]; simp
            have hz := hb1.size
            refine ⟨i + 1, some ⟨g, 0, none⟩, _, cap1, _, rfl, by go_num, by omega, (HBK.out.below hb1 (by omega)).set 1 _, (HRS.out.below hb1 (by omega)).other (by simp) _, ?_, (hbel.trans (hb1.mono (by omega))).setCell (by simp) _, by simp; omega⟩
            rw [e, u64s_append, List.length_append]
            exact ownsRow_setCell_below hown1 (by simp) _
    · obtain rfl : i = n := by omega
      have hs := HSS.out
      subst hs
      go_wp2_with fail
      refine bodyPost_ret (v := .agg #[.int .u64 (i : Int), .slice p m cap0]) (by simp [results, Try.results17, go_sem, *]) rfl ?_
      have ho := ownsRow_setCell_below (ownsRow_setCell_below hown (a := ⟨w.heap.size, 0, none⟩) (by simp) (.int .u64 (i : Int))) (a := ⟨w.heap.size, 1, none⟩) (by simp) (.slice p m cap0)
      have e : Bsm.pos bs = Bsm.posn bs i := by unfold Bsm.pos; rw [HL.out]
      refine ⟨_, rfl, ⟨_, _, _, by rw [HL.out], ?_⟩, ?_⟩
      · rw [e]; exact ownsRow_weaken ho (by omega)
      · exact (hbel.setCell (Nat.le_refl _) _).setCell (Nat.le_refl _) _
end Go.Proofs.Ytbcbkieebelleaa
