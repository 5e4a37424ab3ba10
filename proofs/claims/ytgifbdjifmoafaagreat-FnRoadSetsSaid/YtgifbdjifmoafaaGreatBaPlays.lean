/- Plain law: a script on one sparse array, its answers, and the reference's set beside it; walk of laws.baPlays for a sparse array, its first loop. -/
import Derived.Test.YtgifbdjifmoafaaGreatBaDoes
import Derived.Test.YtgifbdjifmoafaaGreatBaSets2
import Derived.BigRegion
import Derived.Deep.DeepCutAuto
namespace Go.Proofs.YtgifbdjifmoafaaGreat
set_option linter.unusedVariables false
open Go.RowKit Bam

def opsL : List Nat := [3, 3, 3, 3, 4, 4, 5, 5, 9, 10, 14, 15, 6, 3, 5, 4]
def opAt (x : Nat) : Nat := opsL.getD (x % 16) 0
def mv (x : Nat) : Stp := ⟨opAt x, 0, 0, x / 16, 0, false⟩
def first2 : Stp := ⟨2, 0, 0, 0, 0, false⟩
def last14 : Stp := ⟨14, 0, 0, 0, 0, false⟩
def nxt (ps : Ps) (t : Stp) : Ps := if t.op = 3 then setB ps t.k else if t.op = 4 then clearB ps t.k else if t.op = 6 then [] else ps
def ansOf (ps : Ps) (t : Stp) : An :=
  if t.op = 3 ∨ t.op = 4 then ⟨true, 0, []⟩ else if t.op = 5 then ⟨true, if sHas (nums ps) t.k then 1 else 0, []⟩ else if t.op = 9 then ⟨false, capP ps, []⟩
  else if t.op = 10 then ⟨false, (nums ps).length, []⟩ else if t.op = 14 then ⟨false, 0, nums ps⟩ else if t.op = 15 then ⟨decide (ps.length = 0), 0, []⟩ else ⟨false, 0, []⟩
def pat (ms : List Nat) (i : Nat) : Ps := (ms.take i).foldl (fun ps x => nxt ps (mv x)) []
theorem pat_succ (ms : List Nat) (i : Nat) (h : i < ms.length) : pat ms (i + 1) = nxt (pat ms i) (mv (ms.getD i 0)) := by
  unfold pat
  rw [List.take_succ_eq_append_getElem h, List.foldl_append]
  simp [List.getD_eq_getElem?_getD, h]

theorem opAt_cases (x : Nat) : opAt x = 3 ∨ opAt x = 4 ∨ opAt x = 5 ∨ opAt x = 6 ∨ opAt x = 9 ∨ opAt x = 10 ∨ opAt x = 14 ∨ opAt x = 15 := by
  have key : ∀ r, r < 16 → opsL.getD r 0 = 3 ∨ opsL.getD r 0 = 4 ∨ opsL.getD r 0 = 5 ∨ opsL.getD r 0 = 6 ∨ opsL.getD r 0 = 9 ∨ opsL.getD r 0 = 10 ∨ opsL.getD r 0 = 14 ∨ opsL.getD r 0 = 15 := by decide
  exact key _ (Nat.mod_lt _ (by decide))

theorem ins_len (ps : Ps) (i w : Nat) : (ins ps i w).length ≤ ps.length + 1 := by
  induction ps with
  | nil => simp [ins]
  | cons q ps ih =>
    obtain ⟨j, b⟩ := q
    simp only [ins]
    split
    · simp; omega
    · split <;> simp
theorem setB_len (ps : Ps) (k : Nat) : (setB ps k).length ≤ ps.length + 1 := ins_len ps _ _
theorem clearB_len (ps : Ps) (k : Nat) : (clearB ps k).length ≤ ps.length := by
  unfold clearB
  split
  · exact Nat.le_refl _
  · split
    · split
      · rw [List.length_eraseIdx]; split <;> omega
      · rw [List.length_set]; exact Nat.le_refl _
    · exact Nat.le_refl _
theorem setB_small {ps : Ps} {k B : Nat} (h : ∀ q ∈ ps, q.1 < B) (hk : k / 64 < B) : ∀ q ∈ setB ps k, q.1 < B := by
  intro q hq
  rcases setB_keys hq with e | e
  · omega
  · exact h q e
theorem clearB_small {ps : Ps} {k B : Nat} (h : ∀ q ∈ ps, q.1 < B) : ∀ q ∈ clearB ps k, q.1 < B := by
  unfold clearB
  intro q hq
  split at hq
  · exact h q hq
  · rename_i i b e
    split at hq
    · split at hq
      · exact h q ((List.eraseIdx_sublist ps _).subset hq)
      · rcases List.mem_or_eq_of_mem_set hq with e2 | e2
        · exact h q e2
        · rw [e2]; exact h (i, b) (List.mem_of_getElem? e)
    · exact h q hq

structure POk (ps : Ps) (i : Nat) : Prop where
  ok : Ok ps
  nz : Nz ps
  len : ps.length ≤ i
  small : ∀ q ∈ ps, q.1 < 144115188075855872
theorem POk.sok {ps : Ps} {i : Nat} (h : POk ps i) (hi : i ≤ 900) : SOk ps := ⟨h.ok, h.nz, Nat.le_trans h.len hi, h.small⟩
theorem nxt_ok {ps : Ps} {i : Nat} (h : POk ps i) (t : Stp) (hk : t.k < 1152921504606846976) : POk (nxt ps t) (i + 1) := by
  have hl := h.len
  unfold nxt
  split
  · exact ⟨(set_ok h.ok t.k).1, set_nz h.nz t.k, by have := setB_len ps t.k; omega, setB_small h.small (by omega)⟩
  · split
    · exact ⟨(clear_ok h.ok t.k).1, clear_nz h.nz t.k, by have := clearB_len ps t.k; omega, clearB_small h.small⟩
    · split
      · exact ⟨Ok.nil, Nz.nil, Nat.zero_le _, fun q hq => by simp at hq⟩
      · exact ⟨h.ok, h.nz, by omega, h.small⟩
theorem pat_ok (ms : List Nat) (hb : ∀ x ∈ ms, x < 18446744073709551616) : ∀ i, i ≤ ms.length → POk (pat ms i) i
  | 0, _ => ⟨Ok.nil, Nz.nil, Nat.le_refl _, fun q hq => by simp [pat] at hq⟩
  | i + 1, h => by
    rw [pat_succ ms i h]
    refine nxt_ok (pat_ok ms hb i (Nat.le_of_succ_le h)) _ ?_
    have hx : ms.getD i 0 < 18446744073709551616 := by
      rw [List.getD_eq_getElem?_getD, List.getElem?_eq_getElem h]
      exact hb _ (List.getElem_mem h)
    show ms.getD i 0 / 16 < _
    omega

theorem does_mv {ps : Ps} {i : Nat} (h : POk ps i) (hi : i ≤ 900) (x : Nat) (hx : x < 18446744073709551616) : Does [.sp ps] (mv x) [.sp (nxt ps (mv x))] (ansOf ps (mv x)) := by
  have hs := h.sok hi
  have h0 : ([Arr.sp ps] : List Arr)[(mv x).on]? = some (.sp ps) := rfl
  have hk : (mv x).k < 18446744073709551616 := by show x / 16 < _; omega
  have hset : ∀ y : Arr, ([Arr.sp ps] : List Arr).set (mv x).on y = [y] := fun y => rfl
  have hop : (mv x).op = opAt x := rfl
  rcases opAt_cases x with e | e | e | e | e | e | e | e
  · have := does_set [.sp ps] (mv x) ps e h0 hs hk
    rw [hset] at this
    simpa [nxt, ansOf, hop, e] using this
  · have := does_clear [.sp ps] (mv x) ps e h0 hs hk
    rw [hset] at this
    simpa [nxt, ansOf, hop, e] using this
  · have := does_get [.sp ps] (mv x) ps e h0 hs hk
    simpa [nxt, ansOf, hop, e] using this
  · have := does_reset [.sp ps] (mv x) ps e h0 hs
    rw [hset] at this
    simpa [nxt, ansOf, hop, e] using this
  · have := does_cap [.sp ps] (mv x) ps e h0 hs
    simpa [nxt, ansOf, hop, e] using this
  · have := does_count [.sp ps] (mv x) ps e h0 hs
    simpa [nxt, ansOf, hop, e] using this
  · have := does_nums [.sp ps] (mv x) ps e h0 hs
    simpa [nxt, ansOf, hop, e] using this
  · have := does_empty [.sp ps] (mv x) ps e h0 hs
    simpa [nxt, ansOf, hop, e] using this

/-- the answers of the moves -/
def ansAt (ms : List Nat) (i : Nat) : An := ansOf (pat ms i) (mv (ms.getD i 0))
theorem runs_mv (ms : List Nat) (hb : ∀ x ∈ ms, x < 18446744073709551616) (hn : ms.length ≤ 900) : ∀ i, i ≤ ms.length → Runs [.sp []] ((ms.take i).map mv) ((List.range i).map (ansAt ms)) [.sp (pat ms i)]
  | 0, _ => by simpa [pat] using Runs.nil [.sp []]
  | i + 1, h => by
    have hx : ms.getD i 0 < 18446744073709551616 := by
      rw [List.getD_eq_getElem?_getD, List.getElem?_eq_getElem h]
      exact hb _ (List.getElem_mem h)
    have h1 := runs_mv ms hb hn i (Nat.le_of_succ_le h)
    have h2 := does_mv (pat_ok ms hb i (Nat.le_of_succ_le h)) (by omega) (ms.getD i 0) hx
    rw [← pat_succ ms i h] at h2
    have h3 := h1.append (Runs.one (by simp) h2)
    have e1 : (ms.take (i + 1)).map mv = (ms.take i).map mv ++ [mv (ms.getD i 0)] := by
      rw [List.take_succ_eq_append_getElem h, List.map_append, show ms.getD i 0 = ms[i] by rw [List.getD_eq_getElem?_getD, List.getElem?_eq_getElem h]; rfl]
      rfl
    rw [e1, List.range_succ, List.map_append]
    exact h3
/-- the whole script -/
def stepsL (ms : List Nat) : List Stp := first2 :: ms.map mv
theorem runs_all (ms : List Nat) (hb : ∀ x ∈ ms, x < 18446744073709551616) (hn : ms.length ≤ 300) :
    Runs [] (stepsL ms ++ [last14]) ((⟨false, 0, []⟩ :: (List.range ms.length).map (ansAt ms)) ++ [⟨false, 0, nums (pat ms ms.length)⟩]) [.sp (pat ms ms.length)] := by
  have h0 : Runs [] [first2] [⟨false, 0, []⟩] [.sp []] := Runs.one (by simp) (does_new [] first2 rfl)
  have h1 := runs_mv ms hb (by omega) ms.length (Nat.le_refl _)
  rw [List.take_length] at h1
  have h2 : Runs [.sp (pat ms ms.length)] [last14] [⟨false, 0, nums (pat ms ms.length)⟩] [.sp (pat ms ms.length)] :=
    Runs.one (by simp) (does_nums _ last14 _ rfl rfl ((pat_ok ms hb _ (Nat.le_refl _)).sok (by omega)))
  exact (h0.append h1).append h2
end Go.Proofs.YtgifbdjifmoafaaGreat
