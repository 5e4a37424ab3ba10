/- Walk of laws.baPlays for a sparse array. -/
import Derived.Test.YtjnefgmoobbniaaBaPlays
import Derived.Test.YtjnefgmoobbniaaRowKeep
import Derived.Deep.RegionHeld3
import Derived.Deep.QuietTactic
import Derived.BigQuiet
import Derived.Deep.CutBlock
namespace Go.Proofs.Ytjnefgmoobbniaa
set_option linter.unusedVariables false
open Go.RowKit Bam

theorem info_step : (Try.prog.info? 32).map (fun i => (i.zero, i.size, i.bytes)) = some (some (.agg #[.int .i64 0, .int .i64 0, .int .i64 0, .int .u64 0, .int .i64 0, .bool false]), 6, 48) := by kernel_rfl

theorem own_oneS (w : World) (B : Nat) (e : TypeId) (us : Array Value) (S : Nat) (hS : us.size = S) (hB : B ≤ w.heap.size) : (w.alloc (.cells us e)).ownsRow B e S (.slice (some ⟨w.heap.size, 0, none⟩) 1 1) 1 us.toList :=
  ⟨by simp [hS], .inr ⟨w.heap.size, 1, us, rfl, hB, heap_alloc_new w _, Nat.le_refl _, by decide, by simp [hS], by rw [Nat.one_mul, List.take_of_length_le (by simp [hS])]⟩⟩

def stepsAt (ms : List Nat) (i : Nat) : List (List Value) := (first2 :: (ms.take i).map mv).map stpRow
theorem stepsAt_len (ms : List Nat) (i : Nat) : ∀ r ∈ stepsAt ms i, r.length = 6 := by
  intro r hr
  obtain ⟨s, _, rfl⟩ := List.mem_map.1 hr
  rfl
theorem stepsAt_succ (ms : List Nat) (i : Nat) (h : i < ms.length) : stepsAt ms (i + 1) = stepsAt ms i ++ [stpRow (mv (ms.getD i 0))] := by
  unfold stepsAt
  rw [List.take_succ_eq_append_getElem h, show ms.getD i 0 = ms[i] by rw [List.getD_eq_getElem?_getD, List.getElem?_eq_getElem h]; rfl, List.map_append, List.map_cons, List.map_append, List.map_cons]
  rfl

def ops16 : Array Value := #[.int .i64 3, .int .i64 3, .int .i64 3, .int .i64 3, .int .i64 4, .int .i64 4, .int .i64 5, .int .i64 5, .int .i64 9, .int .i64 10, .int .i64 14, .int .i64 15, .int .i64 6, .int .i64 3, .int .i64 5, .int .i64 4]
theorem ops_cell (r : Nat) (h : r < 16) : ops16[r]? = some (.int .i64 ((opsL.getD r 0 : Nat) : Int)) := by
  have hr : r = 0 ∨ r = 1 ∨ r = 2 ∨ r = 3 ∨ r = 4 ∨ r = 5 ∨ r = 6 ∨ r = 7 ∨ r = 8 ∨ r = 9 ∨ r = 10 ∨ r = 11 ∨ r = 12 ∨ r = 13 ∨ r = 14 ∨ r = 15 := by omega
  rcases hr with rfl | rfl | rfl | rfl | rfl | rfl | rfl | rfl | rfl | rfl | rfl | rfl | rfl | rfl | rfl | rfl <;> rfl

theorem row_form {w : World} {B : Nat} {e : TypeId} {size : Nat} {v : Value} {n : Nat} {xs : List Value} (h : w.ownsRow B e size v n xs) (hn : 0 < n) : ∃ g cap, v = .slice (some ⟨g, 0, none⟩) n cap := by
  rcases h.2 with ⟨_, h0⟩ | ⟨g, cap, cur, hv, _⟩
  · omega
  · exact ⟨g, cap, hv⟩
theorem stepsAt_all (ms : List Nat) (n : Nat) (h : n = ms.length) : stepsAt ms n = (stepsL ms).map stpRow := by
  subst h; unfold stepsAt stepsL; rw [List.take_length]

def PlayRel2 (ms : List Nat) (n q : Nat) (w : World) (k : Nat) (idx : Value) (wr : World) : Prop :=
  ∃ (J : Nat) (v : Value), idx = .int .i64 (J : Int) ∧ 1 ≤ J ∧ J + k = n + 1 ∧ Fr [q] [q] w wr ∧ Blk wr q 34 #[.bool false, .int .u64 0, v] ∧ Us wr v (nums (pat ms (J - 1)))

def PlayCut (ms : List Nat) (n B q : Nat) (w : World) (st : Value) (wr : World) : Prop :=
  ∃ (pa : Option Addr) (ca : Nat), st = .slice pa (n + 1) ca ∧ wr.ownsRow B 32 6 (.slice pa (n + 1) ca) (n + 1) (stepsAt ms n).flatten ∧ Blk wr q 34 #[.bool false, .int .u64 0, .slice none 0 0] ∧ Below w.heap.size w wr

theorem stepsL_at (ms : List Nat) (J : Nat) (h1 : 1 ≤ J) (h2 : J ≤ ms.length) : (stepsL ms)[J]? = some (mv (ms.getD (J - 1) 0)) := by
  obtain ⟨j, rfl⟩ : ∃ j, J = j + 1 := ⟨J - 1, by omega⟩
  show (ms.map mv)[j]? = some (mv (ms.getD j 0))
  rw [List.getElem?_map, List.getD_eq_getElem?_getD, List.getElem?_eq_getElem (by omega)]; rfl
theorem ansL_at (ms : List Nat) (z l : An) (J : Nat) (h1 : 1 ≤ J) (h2 : J ≤ ms.length) : ((z :: (List.range ms.length).map (ansAt ms)) ++ [l])[J]? = some (ansAt ms (J - 1)) := by
  obtain ⟨j, rfl⟩ : ∃ j, J = j + 1 := ⟨J - 1, by omega⟩
  rw [List.getElem?_append_left (by simp; omega)]
  show ((List.range ms.length).map (ansAt ms))[j]? = some (ansAt ms j)
  rw [List.getElem?_map, List.getElem?_range (by omega)]; rfl
theorem ansL_last (ms : List Nat) (z l : An) : ((z :: (List.range ms.length).map (ansAt ms)) ++ [l])[ms.length + 1]? = some l := by
  rw [List.getElem?_append_right (by simp)]; simp
theorem pat_at (ms : List Nat) (J : Nat) (h1 : 1 ≤ J) (h2 : J ≤ ms.length) : pat ms J = nxt (pat ms (J - 1)) (mv (ms.getD (J - 1) 0)) := by
  obtain ⟨j, rfl⟩ : ∃ j, J = j + 1 := ⟨J - 1, by omega⟩
  exact pat_succ ms j (by omega)

theorem nums_le (ps : Ps) : (nums ps).length ≤ 64 * ps.length := by
  induction ps with
  | nil => simp [nums]
  | cons q ps ih =>
    have h : (bitsOf q.2).length ≤ 64 := by
      unfold bitsOf
      exact Nat.le_trans (List.length_filter_le _ _) (by simp)
    have e : nums (q :: ps) = ((bitsOf q.2).map fun i => i + q.1 * 64) ++ nums ps := rfl
    rw [e, List.length_append, List.length_map, List.length_cons]
    omega
theorem nums_bd {ps : Ps} {B : Nat} (h : ∀ q ∈ ps, q.1 < B) : ∀ x ∈ nums ps, x < 64 * B := by
  intro x hx
  obtain ⟨q, hq, hx⟩ := List.mem_flatMap.1 hx
  obtain ⟨i, hi, rfl⟩ := List.mem_map.1 hx
  have h1 := h q hq
  have h2 : i < 64 := by
    unfold bitsOf at hi
    have := (List.mem_filter.1 hi).1
    simpa using this
  omega
theorem pat_small (ms : List Nat) (hb : ∀ x ∈ ms, x < 18446744073709551616) : ∀ i, i ≤ ms.length → ∀ q ∈ pat ms i, q.1 < 18014398509481984
  | 0, _ => fun q hq => by simp [pat] at hq
  | i + 1, h => by
    have ih := pat_small ms hb i (Nat.le_of_succ_le h)
    rw [pat_succ ms i h]
    have hx : ms.getD i 0 < 18446744073709551616 := by
      rw [List.getD_eq_getElem?_getD, List.getElem?_eq_getElem h]
      exact hb _ (List.getElem_mem h)
    have hk : (mv (ms.getD i 0)).k / 64 < 18014398509481984 := by show ms.getD i 0 / 16 / 64 < _; omega
    unfold nxt
    split
    · exact setB_small ih hk
    · split
      · exact clearB_small ih
      · split
        · intro q hq; simp at hq
        · exact ih
theorem mv3 (PS : Ps) (X : Nat) (h : opAt X = 3) : ansOf PS (mv X) = ⟨true, 0, []⟩ ∧ nxt PS (mv X) = setB PS (X / 16) := by
  have h1 : (mv X).op = 3 := h
  have h2 : (mv X).k = X / 16 := rfl
  constructor <;> simp [ansOf, nxt, h1, h2]
theorem mv4 (PS : Ps) (X : Nat) (h : opAt X = 4) : ansOf PS (mv X) = ⟨true, 0, []⟩ ∧ nxt PS (mv X) = clearB PS (X / 16) := by
  have h1 : (mv X).op = 4 := h
  have h2 : (mv X).k = X / 16 := rfl
  constructor <;> simp [ansOf, nxt, h1, h2]
theorem mv5 (PS : Ps) (X : Nat) (h : opAt X = 5) : ansOf PS (mv X) = ⟨true, if sHas (nums PS) (X / 16) then 1 else 0, []⟩ ∧ nxt PS (mv X) = PS := by
  have h1 : (mv X).op = 5 := h
  have h2 : (mv X).k = X / 16 := rfl
  constructor <;> simp [ansOf, nxt, h1, h2]
theorem mv6 (PS : Ps) (X : Nat) (h : opAt X = 6) : ansOf PS (mv X) = ⟨false, 0, []⟩ ∧ nxt PS (mv X) = [] := by
  have h1 : (mv X).op = 6 := h
  constructor <;> simp [ansOf, nxt, h1]
theorem mv9 (PS : Ps) (X : Nat) (h : opAt X = 9) : ansOf PS (mv X) = ⟨false, capP PS, []⟩ ∧ nxt PS (mv X) = PS := by
  have h1 : (mv X).op = 9 := h
  constructor <;> simp [ansOf, nxt, h1]
theorem mv10 (PS : Ps) (X : Nat) (h : opAt X = 10) : ansOf PS (mv X) = ⟨false, (nums PS).length, []⟩ ∧ nxt PS (mv X) = PS := by
  have h1 : (mv X).op = 10 := h
  constructor <;> simp [ansOf, nxt, h1]
theorem mv14 (PS : Ps) (X : Nat) (h : opAt X = 14) : ansOf PS (mv X) = ⟨false, 0, nums PS⟩ ∧ nxt PS (mv X) = PS := by
  have h1 : (mv X).op = 14 := h
  constructor <;> simp [ansOf, nxt, h1]
theorem mv15 (PS : Ps) (X : Nat) (h : opAt X = 15) : ansOf PS (mv X) = ⟨decide (PS.length = 0), 0, []⟩ ∧ nxt PS (mv X) = PS := by
  have h1 : (mv X).op = 15 := h
  constructor <;> simp [ansOf, nxt, h1]

theorem play_set {ms : List Nat} {n q : Nat} {w4 wc wx : World} {J k X : Nat} {PS : Ps} {v v2 idx : Value} (hf : Fr [q] [q] w4 wc) (hq : Blk wc q 34 #[.bool false, .int .u64 0, v]) (hb : Below wc.heap.size wc wx) (hu : Us wx v2 (nums (nxt PS (mv X)))) (hp : pat ms J = nxt PS (mv X)) (hJ : 1 ≤ J) (hjk : J + (k + 1) = n + 1) (hi : idx = .int .i64 ((J + 1 : Nat) : Int)) :
    PlayRel2 ms n q w4 k idx (wx.setCell ⟨q, 2, none⟩ v2) := by
  have hqx : Blk wx q 34 #[.bool false, .int .u64 0, v] := (hb.block q hq.lt).trans hq
  have hfs := Fr.store wx (F := [q]) (a := ⟨q, 2, none⟩) (List.mem_singleton.2 rfl) v2
  refine ⟨J + 1, v2, hi, by omega, by omega, (hf.trans (Fr.of_below _ hb)).trans hfs, hqx.set 2 v2, ?_⟩
  rw [Nat.add_sub_cancel, hp]
  exact hfs.own hu (fun b h1 h2 => row_blk hu hqx (by decide) (by rw [mem_obl] at h1; rw [h1, List.mem_singleton.1 h2]))
theorem play_keep {ms : List Nat} {n q : Nat} {w4 wc wx : World} {J k X : Nat} {PS : Ps} {v idx : Value} (hf : Fr [q] [q] w4 wc) (hq : Blk wc q 34 #[.bool false, .int .u64 0, v]) (hb : Below wc.heap.size wc wx) (hu : Us wc v (nums PS)) (hn : nxt PS (mv X) = PS) (hp : pat ms J = nxt PS (mv X)) (hJ : 1 ≤ J) (hjk : J + (k + 1) = n + 1) (hi : idx = .int .i64 ((J + 1 : Nat) : Int)) :
    PlayRel2 ms n q w4 k idx wx := by
  refine ⟨J + 1, v, hi, by omega, by omega, hf.trans (Fr.of_below _ hb), (hb.block q hq.lt).trans hq, ?_⟩
  rw [Nat.add_sub_cancel, hp, hn]
  exact hu.below hb rfl

/-- the boxes of a step and its answer -/
def BoxCut (w : World) (O K : Nat) (Y : Bool) (N : Nat) (u : Value) (s1 s2 : Value) (wx : World) : Prop :=
  ∃ b1 b2 : Nat, s1 = .pointer (some ⟨b1, 0, none⟩) ∧ s2 = .pointer (some ⟨b2, 0, none⟩) ∧ Blk wx b1 32 #[.int .i64 (O : Int), .int .i64 0, .int .i64 0, .int .u64 (K : Int), .int .i64 0, .bool false] ∧ Blk wx b2 45 #[.bool Y, .int .u64 (N : Int), u, .bool false] ∧ Below w.heap.size w wx
theorem box12 (w : World) (O K : Nat) (Y : Bool) (N : Nat) (u : Value) (o1 o2 : Obj) (h1 : o1 = .cells #[.int .i64 (O : Int), .int .i64 0, .int .i64 0, .int .u64 (K : Int), .int .i64 0, .bool false] 32) (h2 : o2 = .cells #[.bool Y, .int .u64 (N : Int), u, .bool false] 45) :
    BoxCut w O K Y N u (.pointer (some ⟨w.heap.size, 0, none⟩)) (.pointer (some ⟨w.heap.size + 1, 0, none⟩)) ((w.alloc o1).alloc o2).drew := by
  subst h1; subst h2
  have hb : Below w.heap.size w ((w.alloc (.cells #[.int .i64 (O : Int), .int .i64 0, .int .i64 0, .int .u64 (K : Int), .int .i64 0, .bool false] 32)).alloc (.cells #[.bool Y, .int .u64 (N : Int), u, .bool false] 45)) := ((Below.refl _ _).alloc (Nat.le_refl _) _).alloc (by simp) _
  refine ⟨_, _, rfl, rfl, (Blk.new w _ _).alloc _, ?_, hb.drew⟩
  have := Blk.new (w.alloc (.cells #[.int .i64 (O : Int), .int .i64 0, .int .i64 0, .int .u64 (K : Int), .int .i64 0, .bool false] 32)) 45 #[.bool Y, .int .u64 (N : Int), u, .bool false]
  rw [World.size_alloc] at this
  exact this
theorem box21 (w : World) (O K : Nat) (Y : Bool) (N : Nat) (u : Value) (o1 o2 : Obj) (h1 : o1 = .cells #[.int .i64 (O : Int), .int .i64 0, .int .i64 0, .int .u64 (K : Int), .int .i64 0, .bool false] 32) (h2 : o2 = .cells #[.bool Y, .int .u64 (N : Int), u, .bool false] 45) :
    BoxCut w O K Y N u (.pointer (some ⟨w.heap.size + 1, 0, none⟩)) (.pointer (some ⟨w.heap.size, 0, none⟩)) ((w.alloc o2).alloc o1).drew := by
  subst h1; subst h2
  have hb : Below w.heap.size w ((w.alloc (.cells #[.bool Y, .int .u64 (N : Int), u, .bool false] 45)).alloc (.cells #[.int .i64 (O : Int), .int .i64 0, .int .i64 0, .int .u64 (K : Int), .int .i64 0, .bool false] 32)) := ((Below.refl _ _).alloc (Nat.le_refl _) _).alloc (by simp) _
  refine ⟨_, _, rfl, rfl, ?_, (Blk.new w _ _).alloc _, hb.drew⟩
  have := Blk.new (w.alloc (.cells #[.bool Y, .int .u64 (N : Int), u, .bool false] 45)) 32 #[.int .i64 (O : Int), .int .i64 0, .int .i64 0, .int .u64 (K : Int), .int .i64 0, .bool false]
  rw [World.size_alloc] at this
  exact this

def PlayRel (ms : List Nat) (n B q : Nat) (w : World) (k : Nat) (st idx : Value) (wr : World) : Prop :=
  ∃ (i : Nat) (pa : Option Addr) (ca : Nat), st = .slice pa (i + 1) ca ∧ idx = .int .i64 (i : Int) ∧ i + k = n ∧ wr.ownsRow B 32 6 (.slice pa (i + 1) ca) (i + 1) (stepsAt ms i).flatten ∧ Blk wr q 34 #[.bool false, .int .u64 0, .slice none 0 0] ∧ Below w.heap.size w wr

set_option maxRecDepth 100000 in
set_option maxHeartbeats 2000000 in
theorem plays_any (v : Value) (xs : List Nat) (w : World) (hv : Sl w v (u64s xs)) (hb : ∀ x ∈ xs, x < 18446744073709551616) :
    Calls Try.prog 12 #[.agg #[.int .i64 2, .int .i64 0, .int .i64 0, .int .u64 0, .int .i64 0, .bool false], .agg #[.bool false, .int .u64 0, .slice none 0 0], v] w fun e w' => e = .returned (.bool true) ∧ Below w.heap.size w w' := by
  obtain ⟨a0, L, cap, rfl, hl, hc, hm, hr⟩ := hv
  rw [u64s_len] at hl
  obtain ⟨ms, hms⟩ : ∃ ms, ms = xs.take 60 := ⟨_, rfl⟩
  obtain ⟨n, hn⟩ : ∃ n, n = ms.length := ⟨_, rfl⟩
  have hn60 : n ≤ 60 := by rw [hn, hms, List.length_take]; omega
  have hnL : n ≤ L := by rw [hn, hms, List.length_take]; omega
  have hnL2 : n = L ∨ n = 60 := by rw [hn, hms, List.length_take]; omega
  have hget : ∀ i, i < n → xs.getD i 0 = ms.getD i 0 := fun i hi => by
    rw [hms, List.getD_eq_getElem?_getD, List.getD_eq_getElem?_getD, List.getElem?_take_of_lt (by omega)]
  have hmb : ∀ x ∈ ms, x < 18446744073709551616 := fun x hx => hb x (List.mem_of_mem_take (hms ▸ hx))
  have HN := Lib.hid hn
  have HG := Lib.hid hget
  have HMB := Lib.hid hmb
  have HL := Lib.hid hl
  have HNL := Lib.hid hnL2
  have hLm : (L : Int) ≤ 9223372036854775807 := by unfold maxLen at hm; omega
  clear hn hget hmb hl hb hms hnL2 hm
  go_enter Try.func12, Try.ntmps12
  go_upto_block 0 with fail
  have hb0 : Below w.heap.size w (((w.alloc (.cells #[.int .i64 2, .int .i64 0, .int .i64 0, .int .u64 0, .int .i64 0, .bool false] 32)).alloc (.cells #[.bool false, .int .u64 0, .slice none 0 0] 34)).alloc (.cells #[.int .i64 2, .int .i64 0, .int .i64 0, .int .u64 0, .int .i64 0, .bool false] 32)) := (((Below.refl _ _).alloc (Nat.le_refl _) _).alloc (by simp) _).alloc (by simp; omega) _
  have ho0 := own_oneS ((w.alloc (.cells #[.int .i64 2, .int .i64 0, .int .i64 0, .int .u64 0, .int .i64 0, .bool false] 32)).alloc (.cells #[.bool false, .int .u64 0, .slice none 0 0] 34)) w.heap.size 32 #[.int .i64 2, .int .i64 0, .int .i64 0, .int .u64 0, .int .i64 0, .bool false] 6 rfl (by simp; omega)
  have hq0 : Blk (((w.alloc (.cells #[.int .i64 2, .int .i64 0, .int .i64 0, .int .u64 0, .int .i64 0, .bool false] 32)).alloc (.cells #[.bool false, .int .u64 0, .slice none 0 0] 34)).alloc (.cells #[.int .i64 2, .int .i64 0, .int .i64 0, .int .u64 0, .int .i64 0, .bool false] 32)) (w.heap.size + 1) 34 #[.bool false, .int .u64 0, .slice none 0 0] := by
    have := (Blk.new (w.alloc (.cells #[.int .i64 2, .int .i64 0, .int .i64 0, .int .u64 0, .int .i64 0, .bool false] 32)) 34 #[.bool false, .int .u64 0, .slice none 0 0]).alloc (.cells #[.int .i64 2, .int .i64 0, .int .i64 0, .int .u64 0, .int .i64 0, .bool false] 32)
    simpa using this
  simp only [World.size_alloc] at ho0
  obtain ⟨w0, hw0⟩ : ∃ w0, (((w.alloc (.cells #[.int .i64 2, .int .i64 0, .int .i64 0, .int .u64 0, .int .i64 0, .bool false] 32)).alloc (.cells #[.bool false, .int .u64 0, .slice none 0 0] 34)).alloc (.cells #[.int .i64 2, .int .i64 0, .int .i64 0, .int .u64 0, .int .i64 0, .bool false] 32)) = w0 := ⟨_, rfl⟩
  rw [hw0] at hb0 ho0 hq0 ⊢
  obtain ⟨q, hq⟩ : ∃ q, w.heap.size + 1 = q := ⟨_, rfl⟩
  have hqw : w.heap.size ≤ q := by omega
  rw [hq] at hq0 ho0 ⊢
  have HB0 := Lib.hid hb0
  have HO0 := Lib.hid ho0
  have HQ0 := Lib.hid hq0
  clear hw0 hb0 ho0 hq0 hq
  go_cut [7] (fun s7 wx => PlayCut ms n w.heap.size q w s7 wx)
  case first =>
    go_wp2_with fail
    go_loopg [7, 8] n (fun k st idx wr => PlayRel ms n w.heap.size q w k st idx wr)
    case atStart => exact ⟨0, _, _, rfl, rfl, by omega, HO0.out, HQ0.out, HB0.out⟩
    case round =>
      obtain ⟨i, pa, ca, rfl, rfl, hik, hown, hqb, hbel⟩ := hrel
      have HO := Lib.hid hown
      have HQ := Lib.hid hqb
      have HB := Lib.hid hbel
      have hsz := hbel.size
      have d0 : wr.cell? ⟨q, 0, none⟩ = some (.bool false) := hqb.cell 0 rfl
      have hqlt := hqb.lt
      clear hown hqb hbel
      by_cases hi : i < n
      · obtain ⟨b, off, rfl, hcell⟩ := hr (by omega)
        have hci := hcell i _ (u64s_at xs i (by rw [HL.out]; omega))
        rw [HG.out i hi] at hci
        have hx64 : ms.getD i 0 < 18446744073709551616 := HMB.out _ (by
          have hi' : i < ms.length := by rw [← HN.out]; exact hi
          rw [List.getD_eq_getElem?_getD, List.getElem?_eq_getElem hi']; exact List.getElem_mem hi')
        have e1 := stepsAt_succ ms i (by rw [← HN.out]; exact hi)
        obtain ⟨X, hX⟩ : ∃ X, ms.getD i 0 = X := ⟨_, rfl⟩
        rw [hX] at hci hx64 e1
        rw [← HB.out.cell (World.block_lt_of_cell? w _ hci)] at hci
        have hblt := World.block_lt_of_cell? _ _ hci
        obtain ⟨r, hr16⟩ : ∃ r, r = X % 16 := ⟨_, rfl⟩
        have hrl : r < 16 := by omega
        have hrm : (X : Int) % 16 = (r : Int) := by omega
        have hrd : (X : Int) / 16 = ((X / 16 : Nat) : Int) := by omega
        obtain ⟨O, hO⟩ : ∃ O, O = opsL.getD r 0 := ⟨_, rfl⟩
        have hoc := ops_cell r hrl
        rw [← hO] at hoc
        have E1 := Lib.hid e1
        have HRD := Lib.hid hrd
        have i1 : (i : Int) < 60 := by omega
        have i2 : (r : Int) < 16 := by omega
        have i3 : (0 : Int) ≤ (r : Int) := by omega
        clear hcell hX e1 hrd
        cases gk with
        | zero => omega
        | succ k =>
          have hiL : i < L := by omega
          have hiL2 : (i : Int) < (L : Int) := by omega
          have hcn : (wr.alloc (.cells #[.int .i64 3, .int .i64 3, .int .i64 3, .int .i64 3, .int .i64 4, .int .i64 4, .int .i64 5, .int .i64 5, .int .i64 9, .int .i64 10, .int .i64 14, .int .i64 15, .int .i64 6, .int .i64 3, .int .i64 5, .int .i64 4] 3)).cell? ⟨wr.heap.size, r, none⟩ = some (.int .i64 (O : Int)) := (Blk.new wr 3 ops16).cell r hoc
          have hba : Below w.heap.size w (wr.alloc (.cells #[.int .i64 3, .int .i64 3, .int .i64 3, .int .i64 3, .int .i64 4, .int .i64 4, .int .i64 5, .int .i64 5, .int .i64 9, .int .i64 10, .int .i64 14, .int .i64 15, .int .i64 6, .int .i64 3, .int .i64 5, .int .i64 4] 3)) := HB.out.alloc hsz _
          have HBA := Lib.hid hba
          have HOA := Lib.hid (HO.out.alloc (.cells #[.int .i64 3, .int .i64 3, .int .i64 3, .int .i64 3, .int .i64 4, .int .i64 4, .int .i64 5, .int .i64 5, .int .i64 9, .int .i64 10, .int .i64 14, .int .i64 15, .int .i64 6, .int .i64 3, .int .i64 5, .int .i64 4] 3))
          have HQA := Lib.hid (HQ.out.alloc (.cells #[.int .i64 3, .int .i64 3, .int .i64 3, .int .i64 3, .int .i64 4, .int .i64 4, .int .i64 5, .int .i64 5, .int .i64 9, .int .i64 10, .int .i64 14, .int .i64 15, .int .i64 6, .int .i64 3, .int .i64 5, .int .i64 4] 3))
          have hrt : (X : Int).tmod 16 = (r : Int) := by rw [Int.tmod_eq_emod_of_nonneg (by omega)]; omega
          have HOC := Lib.hid hO
          have HR16 := Lib.hid hr16
          clear hba hoc hO hr16 hr
          have hmx : i + 1 + 1 ≤ maxLen := by unfold maxLen; omega
          have hone : ∀ u ∈ (#[.int .i64 (O : Int), .int .i64 0, .int .i64 0, .int .u64 ((X : Int) / 16), .int .i64 0, .bool false] : Array Value).toList, u.oneCell' = true := by
            intro u hu
            simp at hu
            rcases hu with rfl | rfl | rfl | rfl | rfl | rfl <;> rfl
          have HON := Lib.hid hone
          clear hone
          go_wp2_with (at_builtin; refine wpList_appendS rfl _ _ 39 rfl w.heap.size 6 32 (.agg #[.int .i64 0, .int .i64 0, .int .i64 0, .int .u64 0, .int .i64 0, .bool false]) 48 Try.underlying39 info_step rfl (by decide) (.slice pa (i + 1) ca) (i + 1) (stepsAt ms i).flatten rfl HOA.out #[.int .i64 (O : Int), .int .i64 0, .int .i64 0, .int .u64 ((X : Int) / 16), .int .i64 0, .bool false] (by rw [World.size_alloc]; rfl) rfl HON.out hmx (by omega) (by rw [World.size_alloc]; omega) ?_; intro g3 cap3 w3 hown3 hg3 hb3; have HO3 := Lib.hid hown3; have HG3 := Lib.hid hg3; have HB3 := Lib.hid hb3; clear hown3 hg3 hb3)
          go_roundg k
          case measure => omega
          case rel =>
            have hst : stpRow (mv X) = [.int .i64 (O : Int), .int .i64 0, .int .i64 0, .int .u64 ((X : Int) / 16), .int .i64 0, .bool false] := by
              rw [HRD.out, HOC.out, HR16.out]; rfl
            refine ⟨i + 1, some ⟨g3, 0, none⟩, cap3, rfl, by go_num, by omega, ?_, HQA.out.grown HG3.out (fun e => row_blk HOA.out HQA.out (by decide) e), HBA.out.trans HB3.out⟩
            rw [E1.out, List.flatten_append, hst]
            simpa using HO3.out
      · obtain rfl : i = n := by omega
        clear hr
        have hway : i = L ∨ (¬ i = L ∧ i = 60) := by have := HNL.out; omega
        go_wp2_with fail
        all_goals go_meet
        all_goals exact ⟨pa, ca, rfl, HO.out, HQ.out, HB.out⟩
  case rest =>
      obtain ⟨pa, ca, rfl, hown, hqb, hbel⟩ := hcut
      obtain ⟨i, hin⟩ : ∃ i, i = n := ⟨n, rfl⟩
      subst hin
      have HO := Lib.hid hown
      have HQ := Lib.hid hqb
      have HB := Lib.hid hbel
      have hsz := hbel.size
      have hqlt := hqb.lt
      clear hown hqb hbel hr
      have hmx : i + 1 + 1 ≤ maxLen := by unfold maxLen; omega
      have hone : ∀ u ∈ (#[.int .i64 14, .int .i64 0, .int .i64 0, .int .u64 0, .int .i64 0, .bool false] : Array Value).toList, u.oneCell' = true := by
        intro u hu
        simp at hu
        rcases hu with rfl | rfl | rfl | rfl | rfl | rfl <;> rfl
      have HON := Lib.hid hone
      clear hone

      go_wp2_with (at_builtin; refine wpList_appendSK rfl _ _ 39 rfl w.heap.size 6 32 (.agg #[.int .i64 0, .int .i64 0, .int .i64 0, .int .u64 0, .int .i64 0, .bool false]) 48 Try.underlying39 info_step rfl (by decide) (.slice pa (i + 1) ca) (i + 1) (stepsAt ms i).flatten rfl HO.out #[.int .i64 14, .int .i64 0, .int .i64 0, .int .u64 0, .int .i64 0, .bool false] rfl rfl HON.out hmx (by omega) (by omega) ?_; intro g3 cap3 w3 hown3 hk3 hg3 hb3; have HO3 := Lib.hid hown3; have HK3 := Lib.hid hk3; have HG3 := Lib.hid hg3; have HB3 := Lib.hid hb3; clear hown3 hk3 hg3 hb3)
      all_goals
        have hsl : (stepsL ms ++ [last14]).length = i + 1 + 1 := by
          have := HN.out
          simp [stepsL]; omega
        have hal := stepsAt_all ms i HN.out
        have hrw3 : Rw 6 w3 (.slice (some ⟨g3, 0, none⟩) (i + 1 + 1) cap3) ((stepsL ms ++ [last14]).map stpRow) := by
          refine Rw.of_owns (fun r hr => ?_) (by decide) (B := w.heap.size) (e := 32) (n := i + 1 + 1) ?_
          · obtain ⟨s, _, rfl⟩ := List.mem_map.1 hr; rfl
          · have h := HO3.out
            rw [hal] at h
            rw [List.map_append, List.flatten_append]
            exact h
        have hml : ms.length ≤ 300 := by have := HN.out; omega
        have hans := answers_any (stepsL ms ++ [last14]) _ _ _ w3 hrw3 (runs_all ms HMB.out hml) (by rw [hsl]; omega) (by rw [hsl]; omega)
        rw [hsl] at hans
        have HANS := Lib.hid hans
        have HK3r : Hid (w3.ownsRow w.heap.size 32 6 (.slice pa (i + 1) ca) (i + 1) ((stepsL ms).map stpRow).flatten) := Lib.hid (hal ▸ HK3.out)
        have HQ3 : Hid (Blk w3 q 34 #[.bool false, .int .u64 0, .slice none 0 0]) := Lib.hid (HQ.out.grown HG3.out (fun e => row_blk HO.out HQ.out (by decide) e))
        have HBB : Hid (Below w.heap.size w w3) := Lib.hid (HB.out.trans HB3.out)
        have HSL := Lib.hid hsl
        clear hsl hal hrw3 hml hans HB3 HG3 HO3 HK3 HQ HB HO hqlt hsz
        refine HANS.out.mono ?_
        rintro e w4 ⟨pa4, ca4, rows, rfl, ho4, hl4, hrn4, hs4, hb4⟩
        obtain ⟨g4, rfl, hcell4⟩ := said_cells ho4 hl4 hrn4 hs4 (by omega)
        have hK4 := own_below HK3r.out hb4
        obtain ⟨g0, cap0, hpa⟩ := row_form hK4 (by omega)
        injection hpa with hpa hc0 hc1
        subst hpa
        subst hc1
        clear hc0
        have hst4 : ∀ j t, (stepsL ms)[j]? = some t → ∀ c u, (stpRow t)[c]? = some u → w4.cell? ⟨g0, j * 6 + c, none⟩ = some u := by
          intro j t hj c u hu
          have h1 : ((stepsL ms).map stpRow)[j]? = some (stpRow t) := by rw [List.getElem?_map, hj]; rfl
          have h2 := flatten_at 6 _ (fun r hr => by obtain ⟨s, _, rfl⟩ := List.mem_map.1 hr; rfl) j c _ u h1 hu
          have := hK4.cells (g := g0) rfl _ u h2
          rw [addr_add, Nat.zero_add] at this
          exact this
        have hQ4 : Blk w4 q 34 #[.bool false, .int .u64 0, .slice none 0 0] := (hb4.block q HQ3.out.lt).trans HQ3.out
        have hg0q : g0 ≠ q := fun e => row_blk hK4 hQ4 (by decide) (by rw [e]; rfl)
        have hg4q : g4 ≠ q := fun e => row_blk ho4 hQ4 (by decide) (by rw [e]; rfl)
        have hB4 : Below w.heap.size w w4 := HBB.out.trans (hb4.mono HBB.out.size)
        have HST := Lib.hid hst4
        have HC := Lib.hid hcell4
        have HQ := Lib.hid hQ4
        have HB := Lib.hid hB4
        clear hst4 hcell4 hQ4 hB4 ho4 hl4 hrn4 hs4 hb4 hK4 HANS HK3r HQ3 HBB HON hmx
        go_wp2_with fail
        go_loopg [12] i (fun k idx wr => PlayRel2 ms i q w4 k idx wr)
        case atStart => exact ⟨1, _, rfl, Nat.le_refl _, by omega, Fr.refl _ _, HQ.out, Us.nil w4⟩
        case round =>
          obtain ⟨J, v, rfl, hJ1, hjk, hfr, hqb, hus⟩ := hrel
          have HFR := Lib.hid hfr
          have HQJ := Lib.hid hqb
          have HU := Lib.hid hus
          clear hfr hqb hus
          by_cases hj : J < i + 1
          · cases gk with
            | zero => omega
            | succ k =>
              have hJm : J ≤ ms.length := by have := HN.out; omega
              have hpt := pat_at ms J hJ1 hJm
              have hsj := HST.out J _ (stepsL_at ms J hJ1 hJm)
              obtain ⟨v', m', c', k0, k1, k2, k3, k4⟩ := HC.out J _ (ansL_at ms _ _ J hJ1 hJm)
              have hX : ms.getD (J - 1) 0 < 18446744073709551616 := HMB.out _ (by
                rw [List.getD_eq_getElem?_getD, List.getElem?_eq_getElem (show J - 1 < ms.length by omega)]; exact List.getElem_mem _)
              have haa : ansAt ms (J - 1) = ansOf (pat ms (J - 1)) (mv (ms.getD (J - 1) 0)) := rfl
              rw [haa] at k0 k1 k4
              obtain ⟨PS, hPS⟩ : ∃ PS, pat ms (J - 1) = PS := ⟨_, rfl⟩
              have hpok : POk PS (J - 1) := hPS ▸ pat_ok ms HMB.out (J - 1) (by omega)
              rw [hPS] at k0 k1 k4 hpt
              have HUP : Hid (Us wr v (nums PS)) := Lib.hid (hPS ▸ HU.out)
              obtain ⟨X, hXe⟩ : ∃ X, ms.getD (J - 1) 0 = X := ⟨_, rfl⟩
              rw [hXe] at k0 k1 k4 hpt hsj hX
              have c0 := hsj 0 _ rfl
              have c1 := hsj 1 (.int .i64 0) rfl
              have c2 := hsj 2 (.int .i64 0) rfl
              have c3 := hsj 3 _ rfl
              have c4 := hsj 4 (.int .i64 0) rfl
              have c5 := hsj 5 (.bool false) rfl
              have hcs := opAt_cases X
              have hXK : (mv X).k = X / 16 := rfl
              have hXO : (mv X).op = opAt X := rfl
              rw [hXK] at c3
              rw [hXO] at c0
              obtain ⟨O, hO⟩ : ∃ O, opAt X = O := ⟨_, rfl⟩
              obtain ⟨K, hK⟩ : ∃ K, X / 16 = K := ⟨_, rfl⟩
              obtain ⟨Y, hY⟩ : ∃ Y, (ansOf PS (mv X)).yes = Y := ⟨_, rfl⟩
              obtain ⟨N, hN⟩ : ∃ N, (ansOf PS (mv X)).n = N := ⟨_, rfl⟩
              have hKl : K < 1152921504606846976 := by omega
              rw [hO] at c0 hcs
              rw [hK] at c3
              rw [hY] at k0
              rw [hN] at k1
              have hn0 : g0 ∉ [q] := by simpa using hg0q
              have hn4 : g4 ∉ [q] := by simpa using hg4q
              replace c0 := HFR.out.cell c0 hn0
              replace c1 := HFR.out.cell c1 hn0
              replace c2 := HFR.out.cell c2 hn0
              replace c3 := HFR.out.cell c3 hn0
              replace c4 := HFR.out.cell c4 hn0
              replace c5 := HFR.out.cell c5 hn0
              replace k0 := HFR.out.cell k0 hn4
              replace k1 := HFR.out.cell k1 hn4
              replace k2 := HFR.out.cell k2 hn4
              replace k3 := HFR.out.cell k3 hn4
              rw [Nat.add_zero] at c0
              have g0lt : g0 < wr.heap.size := World.block_lt_of_cell? wr _ c0
              have g4lt : g4 < wr.heap.size := World.block_lt_of_cell? wr _ k0
              have HE : Hid (opAt X = O ∧ X / 16 = K ∧ (ansOf PS (mv X)).yes = Y ∧ (ansOf PS (mv X)).n = N ∧ pat ms J = nxt PS (mv X)) := Lib.hid ⟨hO, hK, hY, hN, hpt⟩
              have HA : Hid (Us wr (.slice v' m' c') (ansOf PS (mv X)).nums) := Lib.hid (Us.of (HFR.out.own k4 (fun b hb he => row_blk k4 HQ.out (by decide) (by rw [mem_obl] at hb; rw [hb, List.mem_singleton.1 he]))))
              have HPO := Lib.hid hpok
              have hPSM : pat ms (J - 1) = PS := hPS
              have HPSM := Lib.hid hPSM
              clear hPSM
              have hcsH := Lib.hid hcs
              have hJi : (J : Int) < (i : Int) + 1 := by omega
              have hJi2 : J < i + 1 + 1 := by omega
              clear hsj k4 haa hPS hXe hXK hXO hO hK hY hN hpt hpok hcs hX hn0 hn4
              go_upto_region 16 with fail
              go_cut [13, 14] (fun s13 s14 wx => BoxCut wr O K Y N (.slice v' m' c') s13 s14 wx)
              case first =>
                go_big_region
                all_goals go_wp2_with fail
                all_goals go_meet
                all_goals first | exact box12 wr O K Y N (.slice v' m' c') _ _ rfl rfl | exact box21 wr O K Y N (.slice v' m' c') _ _ rfl rfl
              case rest =>
                obtain ⟨b1, b2, rfl, rfl, hb1, hb2, hbel⟩ := hcut
                have e0 := hb1.cell 0 rfl
                have e3 := hb1.cell 3 rfl
                have y0 : wc.cell? ⟨b2, 0, none⟩ = some (.bool Y) := hb2.cell 0 rfl
                have y1 : wc.cell? ⟨b2, 1, none⟩ = some (.int .u64 (N : Int)) := hb2.cell 1 rfl
                have y2 : wc.cell? ⟨b2, 2, none⟩ = some (.slice v' m' c') := hb2.cell 2 rfl
                have hqc : Blk wc q 34 #[.bool false, .int .u64 0, v] := (hbel.block q HQJ.out.lt).trans HQJ.out
                have q0 : wc.cell? ⟨q, 0, none⟩ = some (.bool false) := hqc.cell 0 rfl
                have q1 : wc.cell? ⟨q, 1, none⟩ = some (.int .u64 0) := hqc.cell 1 rfl
                have q2 : wc.cell? ⟨q, 2, none⟩ = some v := hqc.cell 2 rfl
                have hqf := hqc.free
                have HQC := Lib.hid hqc
                have HUC : Hid (Us wc v (nums PS)) := Lib.hid (HUP.out.below hbel rfl)
                have HAC : Hid (Us wc (.slice v' m' c') (ansOf PS (mv X)).nums) := Lib.hid (HA.out.below hbel rfl)
                have HFC : Hid (Fr [q] [q] w4 wc) := Lib.hid (HFR.out.trans (Fr.of_below _ hbel))
                clear hb1 hb2 hqc hbel c0 c1 c2 c3 c4 c5 k0 k1 k2 k3 HUP HA HFR HQJ
                obtain ⟨av, cv, hve, _⟩ := HUC.out.shape
                obtain ⟨D, hD⟩ : ∃ D, (nums PS).length = D := ⟨_, rfl⟩
                rw [hD] at hve
                subst hve
                have hDl : D ≤ 100000 := by
                  have h1 := nums_le PS
                  have h2 := HPO.out.len
                  omega
                have HD := Lib.hid hD
                have hnl : (nums PS).length ≤ 100000 := by rw [hD]; exact hDl
                have HNL2 := Lib.hid hnl
                clear hD hnl
                rcases hcsH.out with h | h | h | h | h | h | h | h
                all_goals subst h
                all_goals clear hcsH
                all_goals obtain ⟨hO, hK, hY, hN, hp⟩ := HE.out
                all_goals have HP := Lib.hid hp
                all_goals have HK := Lib.hid hK
                all_goals clear HE hp hK
                · obtain ⟨ea, en⟩ := mv3 PS X hO
                  rw [ea] at hY hN
                  subst hY; subst hN
                  have HEN := Lib.hid en
                  clear ea en hO
                  go_wp2_with fail
                  refine (put_any (.slice av D cv) (nums PS) K wc HUC.out HNL2.out).mono ?_
                  rintro e w5 ⟨v2, rfl, hU2, hb5⟩
                  obtain ⟨a2, c2, rfl, _⟩ := hU2.shape
                  have HU2 := Lib.hid hU2
                  have HB5 := Lib.hid hb5
                  have p2 : w5.cell? ⟨q, 2, none⟩ = some (.slice av D cv) := by rw [hb5.cell (World.block_lt_of_cell? wc _ q2)]; exact q2
                  have hqf5 : w5.frozen? ⟨q, 2, none⟩ = false := Blk.free ((hb5.block q HQC.out.lt).trans HQC.out) 2
                  clear hU2 hb5
                  go_wp2_with fail
                  go_roundg k
                  case measure => omega
                  case rel => exact play_set HFC.out HQC.out HB5.out (by rw [HEN.out, HK.out, (set_ok HPO.out.ok K).2]; exact HU2.out) HP.out hJ1 hjk (by go_num)
                · obtain ⟨ea, en⟩ := mv4 PS X hO
                  rw [ea] at hY hN
                  subst hY; subst hN
                  have HEN := Lib.hid en
                  clear ea en hO
                  go_wp2_with fail
                  refine (drop_any (.slice av D cv) (nums PS) K wc HUC.out HNL2.out).mono ?_
                  rintro e w5 ⟨v2, rfl, hU2, hb5⟩
                  obtain ⟨a2, c2, rfl, _⟩ := hU2.shape
                  have HU2 := Lib.hid hU2
                  have HB5 := Lib.hid hb5
                  have p2 : w5.cell? ⟨q, 2, none⟩ = some (.slice av D cv) := by rw [hb5.cell (World.block_lt_of_cell? wc _ q2)]; exact q2
                  have hqf5 : w5.frozen? ⟨q, 2, none⟩ = false := Blk.free ((hb5.block q HQC.out.lt).trans HQC.out) 2
                  clear hU2 hb5
                  go_wp2_with fail
                  go_roundg k
                  case measure => omega
                  case rel => exact play_set HFC.out HQC.out HB5.out (by rw [HEN.out, HK.out, (clear_ok HPO.out.ok K).2]; exact HU2.out) HP.out hJ1 hjk (by go_num)
                · obtain ⟨ea, en⟩ := mv5 PS X hO
                  rw [ea] at hY hN
                  rw [HK.out] at hN
                  have hhas : ∀ nq, Calls Try.prog 19 #[.slice av D cv, .int .u64 (K : Int)] (wc.drewN nq) fun e w' => e = .returned (.bool (sHas (nums PS) K)) ∧ w' = wc.drewN nq := fun nq =>
                    (has_any (.slice av D cv) (nums PS) K (wc.drewN nq) (HUC.out.drewN nq) (Nat.le_trans HNL2.out (by decide))).mono fun e w' h => ⟨h.1, h.2.symm⟩
                  have HEN := Lib.hid en
                  clear ea en hO
                  subst hY
                  by_cases hh : sHas (nums PS) K = true
                  · simp only [hh] at hhas
                    rw [hh, if_pos rfl] at hN
                    subst hN
                    have HH := Lib.hid hhas
                    clear hhas hh
                    go_wp2_with fail
                    go_quiet ((go_at_call 19; exact Calls.quiet_of_same (HH.out _)))
                    go_wp2_with fail
                    go_roundg k
                    case measure => omega
                    case rel => exact play_keep HFC.out HQC.out (below_drewN (Below.refl _ _) _) HUC.out HEN.out HP.out hJ1 hjk (by go_num)
                  · have hh2 : sHas (nums PS) K = false := by simpa using hh
                    simp only [hh2] at hhas
                    rw [hh2] at hN
                    simp at hN
                    subst hN
                    have HH := Lib.hid hhas
                    clear hhas hh hh2
                    go_wp2_with fail
                    go_quiet ((go_at_call 19; exact Calls.quiet_of_same (HH.out _)))
                    go_wp2_with fail
                    go_roundg k
                    case measure => omega
                    case rel => exact play_keep HFC.out HQC.out (below_drewN (Below.refl _ _) _) HUC.out HEN.out HP.out hJ1 hjk (by go_num)
                · obtain ⟨ea, en⟩ := mv6 PS X hO
                  rw [ea] at hY hN
                  subst hY; subst hN
                  have HEN := Lib.hid en
                  clear ea en hO
                  go_wp2_with fail
                  go_roundg k
                  case measure => omega
                  case rel => exact play_set HFC.out HQC.out (Below.refl _ _) (by rw [HEN.out]; exact Us.nil wc) HP.out hJ1 hjk (by go_num)
                · obtain ⟨ea, en⟩ := mv9 PS X hO
                  rw [ea] at hY hN
                  have hN2 : sCap (nums PS) = N := by rw [← hN]; exact (cap_ok HPO.out.ok HPO.out.nz).symm
                  have hcap : ∀ w', Below wc.heap.size wc w' → Calls Try.prog 20 #[.agg #[.bool false, .int .u64 0, .slice av D cv]] w' fun e w'' => e = .returned (.int .u64 ((sCap (nums PS) : Nat) : Int)) ∧ Below wc.heap.size wc w'' := fun w' hbw =>
                    (bacap_any (.slice av D cv) (nums PS) 0 w' (HUC.out.below hbw rfl) HNL2.out (by
                      intro x hx
                      have h1 := nums_bd (B := 18014398509481984) (HPSM.out ▸ pat_small ms HMB.out (J - 1) (by omega)) x hx
                      omega)).mono fun e w'' h => ⟨h.1, hbw.trans (h.2.mono hbw.size)⟩
                  simp only [hN2] at hcap
                  have HH := Lib.hid hcap
                  have HEN := Lib.hid en
                  clear ea en hO hN hN2 hcap
                  subst hY
                  go_wp2_with fail
                  have b2lt := World.block_lt_of_cell? wc _ y1
                  have qlt := World.block_lt_of_cell? wc _ q0
                  have hbself : Below wc.heap.size wc wc := Below.refl _ _
                  go_region_held3 (fun w' => Below wc.heap.size wc w' ∧ w'.cell? ⟨b2, 1, none⟩ = some (.int .u64 (N : Int)) ∧ w'.cell? ⟨q, 0, none⟩ = some (.bool false) ∧ w'.cell? ⟨q, 1, none⟩ = some (.int .u64 0) ∧ w'.cell? ⟨q, 2, none⟩ = some (.slice av D cv))
                    ((first | exact ⟨hbself.drew, y1, q0, q1, q2⟩ | exact ⟨hb5, y1', q0', q1', q2'⟩ | exact ⟨by assumption, by assumption, by assumption, by assumption, by assumption⟩))
                    ((go_at_call 20; (with_reducible refine Calls.mono (HH.out _ (by first | assumption | exact hbself.drew)) ?_); rintro e w5 ⟨rfl, hb5⟩; have y1' := (hb5.cell (p := ⟨b2, 1, none⟩) b2lt).trans y1; have q0' := (hb5.cell (p := ⟨q, 0, none⟩) qlt).trans q0; have q1' := (hb5.cell (p := ⟨q, 1, none⟩) qlt).trans q1; have q2' := (hb5.cell (p := ⟨q, 2, none⟩) qlt).trans q2))
                  all_goals
                    go_wp2_with fail
                    go_roundg k
                    case measure => omega
                    case rel => exact play_keep HFC.out HQC.out (by first | assumption | exact Below.drew (by assumption)) HUC.out HEN.out HP.out hJ1 hjk (by go_num)
                · obtain ⟨ea, en⟩ := mv10 PS X hO
                  rw [ea] at hY hN
                  have hN2 : N = D := by rw [← hN]; exact HD.out
                  have HEN := Lib.hid en
                  clear ea en hO hN
                  subst hN2
                  subst hY
                  go_wp2_with fail
                  go_roundg k
                  case measure => omega
                  case rel => exact play_keep HFC.out HQC.out (Below.refl _ _) HUC.out HEN.out HP.out hJ1 hjk (by go_num)
                · obtain ⟨ea, en⟩ := mv14 PS X hO
                  have hAC := HAC.out
                  rw [ea] at hY hN hAC
                  have hsm := same_any (.slice v' m' c') (.slice av D cv) (nums PS) (nums PS) wc hAC HUC.out HNL2.out HNL2.out
                  rw [decide_eq_true rfl] at hsm
                  have HH := Lib.hid hsm
                  have HEN := Lib.hid en
                  clear ea en hO hAC hsm
                  subst hY; subst hN
                  go_wp2_with fail
                  refine HH.out.mono ?_
                  rintro e w5 ⟨rfl, nq, rfl⟩
                  go_wp2_with fail
                  go_roundg k
                  case measure => omega
                  case rel => exact play_keep HFC.out HQC.out (below_drewN (Below.refl _ _) nq) HUC.out HEN.out HP.out hJ1 hjk (by go_num)
                · obtain ⟨ea, en⟩ := mv15 PS X hO
                  rw [ea] at hY hN
                  have hDz : D = 0 ↔ PS.length = 0 := by
                    rw [← HD.out]
                    constructor
                    · intro h
                      rw [nums_nil_of HPO.out.ok HPO.out.nz (List.eq_nil_of_length_eq_zero h)]; rfl
                    · intro h
                      rw [List.eq_nil_of_length_eq_zero h]; rfl
                  have HEN := Lib.hid en
                  by_cases hz : PS.length = 0
                  · have hd0 := hDz.2 hz
                    rw [decide_eq_true hz] at hY
                    clear ea en hO hDz hz
                    subst hd0; subst hY; subst hN
                    go_wp2_with fail
                    go_roundg k
                    case measure => omega
                    case rel => exact play_keep HFC.out HQC.out (Below.refl _ _) HUC.out HEN.out HP.out hJ1 hjk (by go_num)
                  · have hd0 : ¬ D = 0 := fun h => hz (hDz.1 h)
                    rw [decide_eq_false hz] at hY
                    have hd1 : 0 < D := by omega
                    clear ea en hO hDz hz hd0
                    subst hY; subst hN
                    go_wp2_with fail
                    go_roundg k
                    case measure => omega
                    case rel => exact play_keep HFC.out HQC.out (Below.refl _ _) HUC.out HEN.out HP.out hJ1 hjk (by go_num)
          · obtain rfl : J = i + 1 := by omega
            obtain ⟨v', m', c', k0, k1, k2, k3, k4⟩ := HC.out (i + 1) _ (by rw [HN.out]; exact ansL_last ms _ _)
            have hn4 : g4 ∉ [q] := by simpa using hg4q
            have x2 : wr.cell? ⟨g4, (i + 1) * 4 + 2, none⟩ = some (.slice v' m' c') := HFR.out.cell k2 hn4
            have hA : Us wr (.slice v' m' c') (nums (pat ms ms.length)) := Us.of (HFR.out.own k4 (fun b hb he => row_blk k4 HQ.out (by decide) (by rw [mem_obl] at hb; rw [hb, List.mem_singleton.1 he])))
            have hU : Us wr v (nums (pat ms ms.length)) := by
              have h := HU.out
              rw [Nat.add_sub_cancel, HN.out] at h
              exact h
            obtain ⟨av, cv, hve, _⟩ := hU.shape
            have hnl : (nums (pat ms ms.length)).length ≤ 100000 := by
              have h1 := nums_le (pat ms ms.length)
              have h2 := (pat_ok ms HMB.out ms.length (Nat.le_refl _)).len
              have h3 := HN.out
              omega
            obtain ⟨SS, hSS⟩ : ∃ SS, nums (pat ms ms.length) = SS := ⟨_, rfl⟩
            rw [hSS] at hA hU hve hnl
            obtain ⟨D, hD⟩ : ∃ D, SS.length = D := ⟨_, rfl⟩
            rw [hD] at hve
            subst hve
            have hsm : ∀ nq, Calls Try.prog 9 #[.slice v' m' c', .slice av D cv] (wr.drewN nq) fun e w' => e = .returned (.bool true) ∧ ∃ m, w' = (wr.drewN nq).drewN m := fun nq => by
              have h := same_any (.slice v' m' c') (.slice av D cv) SS SS (wr.drewN nq) (hA.drewN nq) (hU.drewN nq) hnl hnl
              rw [decide_eq_true rfl] at h
              exact h
            have HSM := Lib.hid hsm
            have q0 : wr.cell? ⟨q, 0, none⟩ = some (.bool false) := HQJ.out.cell 0 rfl
            have q1 : wr.cell? ⟨q, 1, none⟩ = some (.int .u64 0) := HQJ.out.cell 1 rfl
            have q2 : wr.cell? ⟨q, 2, none⟩ = some (.slice av D cv) := HQJ.out.cell 2 rfl
            have hmx : (i : Int) + 1 + 1 ≤ 9223372036854775807 := by omega
            have HBE : Hid (Below w.heap.size w wr) := Lib.hid (HB.out.trans (HFR.out.below (fun k hk => by rw [List.mem_singleton.1 hk]; exact hqw) HB.out.size))
            clear hsm hA hU hnl hSS hD k0 k1 k2 k3 k4 hn4 HU
            go_wp2_with fail
            go_quiet ((go_at_call 9; exact Calls.quiet_of (HSM.out _)))
            go_wp2_with fail
            go_ret
            exact ⟨rfl, below_drewN HBE.out _⟩
end Go.Proofs.Ytjnefgmoobbniaa
