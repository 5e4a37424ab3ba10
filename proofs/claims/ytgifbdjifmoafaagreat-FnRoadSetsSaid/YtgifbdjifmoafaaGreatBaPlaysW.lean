/- Walk of laws.baPlays for a sparse array. -/
import Derived.Test.YtgifbdjifmoafaaGreatBaPlays
import Derived.Test.YtgifbdjifmoafaaGreatRowKeep
import Derived.Deep.RegionHeld3
import Derived.Deep.QuietTactic
import Derived.BigQuiet
import Derived.Deep.CutBlock
namespace Go.Proofs.YtgifbdjifmoafaaGreat
set_option linter.unusedVariables false
open Go.RowKit Bam

theorem info_step : (Tryz.prog.info? 33).map (fun i => (i.zero, i.size, i.bytes)) = some (some (.agg #[.int .i64 0, .int .i64 0, .int .i64 0, .int .u64 0, .int .i64 0, .bool false]), 6, 48) := by kernel_rfl

theorem own_oneS (w : World) (B : Nat) (e : TypeId) (us : Array Value) (S : Nat) (hS : us.size = S) (hB : B ≤ w.heap.size) : (w.alloc (.cells us e)).ownsRow B e S (.slice (some ⟨w.heap.size, 0, none⟩) 1 1) 1 us.toList :=
  ⟨by simp [hS], .inr ⟨w.heap.size, 1, us, rfl, hB, heap_alloc_new w _, Nat.le_refl _, by decide, by simp [hS], by rw [Nat.one_mul, List.take_of_length_le (by simp [hS])]⟩⟩

def stepsAt (ms : List Nat) (i : Nat) : List (List Value) := (first2 :: (ms.take i).map mv).map stpRow
theorem stepsAt_len (ms : List Nat) (i : Nat) : ∀ r ∈ stepsAt ms i, r.length = 6 := by
  intro r hr
  obtain ⟨s, _, rfl⟩ := List.mem_map.1 hr
  rfl
theorem stepsAt_succ (ms : List Nat) (i : Nat) (h : i < ms.length) : stepsAt ms (i + 1) = stepsAt ms i ++ [stpRow (mv (ms.getD i 0))] := by
  unfold stepsAt
  rw [List.take_succ_eq_append_getElem h, show ms.getD i 0 = ms[i] by rw [List.getD_eq_getElem?_getD, List.getElem?_eq_getElem h]; rfl, List.map_append, List.map_cons, List.map_append, List.map_cons]
  rfl

def ops16 : Array Value := #[.int .i64 3, .int .i64 3, .int .i64 3, .int .i64 3, .int .i64 4, .int .i64 4, .int .i64 5, .int .i64 5, .int .i64 9, .int .i64 10, .int .i64 14, .int .i64 15, .int .i64 6, .int .i64 3, .int .i64 5, .int .i64 4]
theorem ops_cell (r : Nat) (h : r < 16) : ops16[r]? = some (.int .i64 ((opsL.getD r 0 : Nat) : Int)) := by
  have hr : r = 0 ∨ r = 1 ∨ r = 2 ∨ r = 3 ∨ r = 4 ∨ r = 5 ∨ r = 6 ∨ r = 7 ∨ r = 8 ∨ r = 9 ∨ r = 10 ∨ r = 11 ∨ r = 12 ∨ r = 13 ∨ r = 14 ∨ r = 15 := by omega
  rcases hr with rfl | rfl | rfl | rfl | rfl | rfl | rfl | rfl | rfl | rfl | rfl | rfl | rfl | rfl | rfl | rfl <;> rfl

theorem row_form {w : World} {B : Nat} {e : TypeId} {size : Nat} {v : Value} {n : Nat} {xs : List Value} (h : w.ownsRow B e size v n xs) (hn : 0 < n) : ∃ g cap, v = .slice (some ⟨g, 0, none⟩) n cap := by
  rcases h.2 with ⟨_, h0⟩ | ⟨g, cap, cur, hv, _⟩
  · omega
  · exact ⟨g, cap, hv⟩
theorem stepsAt_all (ms : List Nat) (n : Nat) (h : n = ms.length) : stepsAt ms n = (stepsL ms).map stpRow := by
  subst h; unfold stepsAt stepsL; rw [List.take_length]

def PlayRel2 (ms : List Nat) (n q : Nat) (w : World) (k : Nat) (idx : Value) (wr : World) : Prop :=
  ∃ (J : Nat) (v : Value), idx = .int .i64 (J : Int) ∧ 1 ≤ J ∧ J + k = n + 1 ∧ Fr [q] [q] w wr ∧ Blk wr q 28 #[.bool false, .int .u64 0, v] ∧ Us wr v (nums (pat ms (J - 1)))

def PlayCut (ms : List Nat) (n B q : Nat) (w : World) (st : Value) (wr : World) : Prop :=
  ∃ (pa : Option Addr) (ca : Nat), st = .slice pa (n + 1) ca ∧ wr.ownsRow B 33 6 (.slice pa (n + 1) ca) (n + 1) (stepsAt ms n).flatten ∧ Blk wr q 28 #[.bool false, .int .u64 0, .slice none 0 0] ∧ Below w.heap.size w wr

theorem stepsL_at (ms : List Nat) (J : Nat) (h1 : 1 ≤ J) (h2 : J ≤ ms.length) : (stepsL ms)[J]? = some (mv (ms.getD (J - 1) 0)) := by
  obtain ⟨j, rfl⟩ : ∃ j, J = j + 1 := ⟨J - 1, by omega⟩
  show (ms.map mv)[j]? = some (mv (ms.getD j 0))
  rw [List.getElem?_map, List.getD_eq_getElem?_getD, List.getElem?_eq_getElem (by omega)]; rfl
theorem ansL_at (ms : List Nat) (z l : An) (J : Nat) (h1 : 1 ≤ J) (h2 : J ≤ ms.length) : ((z :: (List.range ms.length).map (ansAt ms)) ++ [l])[J]? = some (ansAt ms (J - 1)) := by
  obtain ⟨j, rfl⟩ : ∃ j, J = j + 1 := ⟨J - 1, by omega⟩
  rw [List.getElem?_append_left (by simp; omega)]
  show ((List.range ms.length).map (ansAt ms))[j]? = some (ansAt ms j)
  rw [List.getElem?_map, List.getElem?_range (by omega)]; rfl
theorem ansL_last (ms : List Nat) (z l : An) : ((z :: (List.range ms.length).map (ansAt ms)) ++ [l])[ms.length + 1]? = some l := by
  rw [List.getElem?_append_right (by simp)]; simp
theorem pat_at (ms : List Nat) (J : Nat) (h1 : 1 ≤ J) (h2 : J ≤ ms.length) : pat ms J = nxt (pat ms (J - 1)) (mv (ms.getD (J - 1) 0)) := by
  obtain ⟨j, rfl⟩ : ∃ j, J = j + 1 := ⟨J - 1, by omega⟩
  exact pat_succ ms j (by omega)

theorem nums_le (ps : Ps) : (nums ps).length ≤ 64 * ps.length := by
  induction ps with
  | nil => simp [nums]
  | cons q ps ih =>
    have h : (bitsOf q.2).length ≤ 64 := by
      unfold bitsOf
      exact Nat.le_trans (List.length_filter_le _ _) (by simp)
    have e : nums (q :: ps) = ((bitsOf q.2).map fun i => i + q.1 * 64) ++ nums ps := rfl
    rw [e, List.length_append, List.length_map, List.length_cons]
    omega
theorem nums_bd {ps : Ps} {B : Nat} (h : ∀ q ∈ ps, q.1 < B) : ∀ x ∈ nums ps, x < 64 * B := by
  intro x hx
  obtain ⟨q, hq, hx⟩ := List.mem_flatMap.1 hx
  obtain ⟨i, hi, rfl⟩ := List.mem_map.1 hx
  have h1 := h q hq
  have h2 : i < 64 := by
    unfold bitsOf at hi
    have := (List.mem_filter.1 hi).1
    simpa using this
  omega
theorem pat_small (ms : List Nat) (hb : ∀ x ∈ ms, x < 18446744073709551616) : ∀ i, i ≤ ms.length → ∀ q ∈ pat ms i, q.1 < 18014398509481984
  | 0, _ => fun q hq => by simp [pat] at hq
  | i + 1, h => by
    have ih := pat_small ms hb i (Nat.le_of_succ_le h)
    rw [pat_succ ms i h]
    have hx : ms.getD i 0 < 18446744073709551616 := by
      rw [List.getD_eq_getElem?_getD, List.getElem?_eq_getElem h]
      exact hb _ (List.getElem_mem h)
    have hk : (mv (ms.getD i 0)).k / 64 < 18014398509481984 := by show ms.getD i 0 / 16 / 64 < _; omega
    unfold nxt
    split
    · exact setB_small ih hk
    · split
      · exact clearB_small ih
      · split
        · intro q hq; simp at hq
        · exact ih
theorem mv3 (PS : Ps) (X : Nat) (h : opAt X = 3) : ansOf PS (mv X) = ⟨true, 0, []⟩ ∧ nxt PS (mv X) = setB PS (X / 16) := by
  have h1 : (mv X).op = 3 := h
  have h2 : (mv X).k = X / 16 := rfl
  constructor <;> simp [ansOf, nxt, h1, h2]
theorem mv4 (PS : Ps) (X : Nat) (h : opAt X = 4) : ansOf PS (mv X) = ⟨true, 0, []⟩ ∧ nxt PS (mv X) = clearB PS (X / 16) := by
  have h1 : (mv X).op = 4 := h
  have h2 : (mv X).k = X / 16 := rfl
  constructor <;> simp [ansOf, nxt, h1, h2]
theorem mv5 (PS : Ps) (X : Nat) (h : opAt X = 5) : ansOf PS (mv X) = ⟨true, if sHas (nums PS) (X / 16) then 1 else 0, []⟩ ∧ nxt PS (mv X) = PS := by
  have h1 : (mv X).op = 5 := h
  have h2 : (mv X).k = X / 16 := rfl
  constructor <;> simp [ansOf, nxt, h1, h2]
theorem mv6 (PS : Ps) (X : Nat) (h : opAt X = 6) : ansOf PS (mv X) = ⟨false, 0, []⟩ ∧ nxt PS (mv X) = [] := by
  have h1 : (mv X).op = 6 := h
  constructor <;> simp [ansOf, nxt, h1]
theorem mv9 (PS : Ps) (X : Nat) (h : opAt X = 9) : ansOf PS (mv X) = ⟨false, capP PS, []⟩ ∧ nxt PS (mv X) = PS := by
  have h1 : (mv X).op = 9 := h
  constructor <;> simp [ansOf, nxt, h1]
theorem mv10 (PS : Ps) (X : Nat) (h : opAt X = 10) : ansOf PS (mv X) = ⟨false, (nums PS).length, []⟩ ∧ nxt PS (mv X) = PS := by
  have h1 : (mv X).op = 10 := h
  constructor <;> simp [ansOf, nxt, h1]
theorem mv14 (PS : Ps) (X : Nat) (h : opAt X = 14) : ansOf PS (mv X) = ⟨false, 0, nums PS⟩ ∧ nxt PS (mv X) = PS := by
  have h1 : (mv X).op = 14 := h
  constructor <;> simp [ansOf, nxt, h1]
theorem mv15 (PS : Ps) (X : Nat) (h : opAt X = 15) : ansOf PS (mv X) = ⟨decide (PS.length = 0), 0, []⟩ ∧ nxt PS (mv X) = PS := by
  have h1 : (mv X).op = 15 := h
  constructor <;> simp [ansOf, nxt, h1]

theorem play_set {ms : List Nat} {n q : Nat} {w4 wc wx : World} {J k X : Nat} {PS : Ps} {v v2 idx : Value} (hf : Fr [q] [q] w4 wc) (hq : Blk wc q 28 #[.bool false, .int .u64 0, v]) (hb : Below wc.heap.size wc wx) (hu : Us wx v2 (nums (nxt PS (mv X)))) (hp : pat ms J = nxt PS (mv X)) (hJ : 1 ≤ J) (hjk : J + (k + 1) = n + 1) (hi : idx = .int .i64 ((J + 1 : Nat) : Int)) :
    PlayRel2 ms n q w4 k idx (wx.setCell ⟨q, 2, none⟩ v2) := by
  have hqx : Blk wx q 28 #[.bool false, .int .u64 0, v] := (hb.block q hq.lt).trans hq
  have hfs := Fr.store wx (F := [q]) (a := ⟨q, 2, none⟩) (List.mem_singleton.2 rfl) v2
  refine ⟨J + 1, v2, hi, by omega, by omega, (hf.trans (Fr.of_below _ hb)).trans hfs, hqx.set 2 v2, ?_⟩
  rw [Nat.add_sub_cancel, hp]
  exact hfs.own hu (fun b h1 h2 => row_blk hu hqx (by decide) (by rw [mem_obl] at h1; rw [h1, List.mem_singleton.1 h2]))
theorem play_keep {ms : List Nat} {n q : Nat} {w4 wc wx : World} {J k X : Nat} {PS : Ps} {v idx : Value} (hf : Fr [q] [q] w4 wc) (hq : Blk wc q 28 #[.bool false, .int .u64 0, v]) (hb : Below wc.heap.size wc wx) (hu : Us wc v (nums PS)) (hn : nxt PS (mv X) = PS) (hp : pat ms J = nxt PS (mv X)) (hJ : 1 ≤ J) (hjk : J + (k + 1) = n + 1) (hi : idx = .int .i64 ((J + 1 : Nat) : Int)) :
    PlayRel2 ms n q w4 k idx wx := by
  refine ⟨J + 1, v, hi, by omega, by omega, hf.trans (Fr.of_below _ hb), (hb.block q hq.lt).trans hq, ?_⟩
  rw [Nat.add_sub_cancel, hp, hn]
  exact hu.below hb rfl

/-- the boxes of a step and its answer -/
def BoxCut (w : World) (O K : Nat) (Y : Bool) (N : Nat) (u : Value) (s1 s2 : Value) (wx : World) : Prop :=
  ∃ b1 b2 : Nat, s1 = .pointer (some ⟨b1, 0, none⟩) ∧ s2 = .pointer (some ⟨b2, 0, none⟩) ∧ Blk wx b1 33 #[.int .i64 (O : Int), .int .i64 0, .int .i64 0, .int .u64 (K : Int), .int .i64 0, .bool false] ∧ Blk wx b2 44 #[.bool Y, .int .u64 (N : Int), u, .bool false] ∧ Below w.heap.size w wx
theorem box12 (w : World) (O K : Nat) (Y : Bool) (N : Nat) (u : Value) (o1 o2 : Obj) (h1 : o1 = .cells #[.int .i64 (O : Int), .int .i64 0, .int .i64 0, .int .u64 (K : Int), .int .i64 0, .bool false] 33) (h2 : o2 = .cells #[.bool Y, .int .u64 (N : Int), u, .bool false] 44) :
    BoxCut w O K Y N u (.pointer (some ⟨w.heap.size, 0, none⟩)) (.pointer (some ⟨w.heap.size + 1, 0, none⟩)) ((w.alloc o1).alloc o2).drew := by
  subst h1; subst h2
  have hb : Below w.heap.size w ((w.alloc (.cells #[.int .i64 (O : Int), .int .i64 0, .int .i64 0, .int .u64 (K : Int), .int .i64 0, .bool false] 33)).alloc (.cells #[.bool Y, .int .u64 (N : Int), u, .bool false] 44)) := ((Below.refl _ _).alloc (Nat.le_refl _) _).alloc (by simp) _
  refine ⟨_, _, rfl, rfl, (Blk.new w _ _).alloc _, ?_, hb.drew⟩
  have := Blk.new (w.alloc (.cells #[.int .i64 (O : Int), .int .i64 0, .int .i64 0, .int .u64 (K : Int), .int .i64 0, .bool false] 33)) 44 #[.bool Y, .int .u64 (N : Int), u, .bool false]
  rw [World.size_alloc] at this
  exact this
theorem box21 (w : World) (O K : Nat) (Y : Bool) (N : Nat) (u : Value) (o1 o2 : Obj) (h1 : o1 = .cells #[.int .i64 (O : Int), .int .i64 0, .int .i64 0, .int .u64 (K : Int), .int .i64 0, .bool false] 33) (h2 : o2 = .cells #[.bool Y, .int .u64 (N : Int), u, .bool false] 44) :
    BoxCut w O K Y N u (.pointer (some ⟨w.heap.size + 1, 0, none⟩)) (.pointer (some ⟨w.heap.size, 0, none⟩)) ((w.alloc o2).alloc o1).drew := by
  subst h1; subst h2
  have hb : Below w.heap.size w ((w.alloc (.cells #[.bool Y, .int .u64 (N : Int), u, .bool false] 44)).alloc (.cells #[.int .i64 (O : Int), .int .i64 0, .int .i64 0, .int .u64 (K : Int), .int .i64 0, .bool false] 33)) := ((Below.refl _ _).alloc (Nat.le_refl _) _).alloc (by simp) _
  refine ⟨_, _, rfl, rfl, ?_, (Blk.new w _ _).alloc _, hb.drew⟩
  have := Blk.new (w.alloc (.cells #[.bool Y, .int .u64 (N : Int), u, .bool false] 44)) 33 #[.int .i64 (O : Int), .int .i64 0, .int .i64 0, .int .u64 (K : Int), .int .i64 0, .bool false]
  rw [World.size_alloc] at this
  exact this

def PlayRel (ms : List Nat) (n B q : Nat) (w : World) (k : Nat) (st idx : Value) (wr : World) : Prop :=
  ∃ (i : Nat) (pa : Option Addr) (ca : Nat), st = .slice pa (i + 1) ca ∧ idx = .int .i64 (i : Int) ∧ i + k = n ∧ wr.ownsRow B 33 6 (.slice pa (i + 1) ca) (i + 1) (stepsAt ms i).flatten ∧ Blk wr q 28 #[.bool false, .int .u64 0, .slice none 0 0] ∧ Below w.heap.size w wr

end Go.Proofs.YtgifbdjifmoafaaGreat
