/- FnRoadHash: a hash map has the values that an AVL tree has. -/
import Derived.Test.YtidekgmpbcnfmaaAvBackPlain
import Derived.Test.YtidekgmpbcnfmaaFiRun
import Derived.Test.YtidekgmpbcnfmaaRhTurned
import Derived.Test.YtidekgmpbcnfmaaAvDelete
import Derived.Test.YtidekgmpbcnfmaaAvKeep
import Derived.Test.YtidekgmpbcnfmaaAvSaid
import Derived.Test.YtidekgmpbcnfmaaApRow
import Derived.Deep.RegionHeld3
import Derived.BigRegion
import Derived.BigQuiet
import Derived.Deep.QuietTactic
namespace Go.Proofs.Ytidekgmpbcnfmaa
set_option linter.unusedVariables false
open Go.RowKit Avm

def rhE (X : List Int) (i : Nat) : Lst := (List.range i).map fun j => (X.getD j 0, (j : Int) + 1)
def rhO (X : List Int) (i : Nat) : Lst := (List.range i).map fun j => (X.getD j 0, 0)
def rhS (X : List Int) (i : Nat) : List FStep := (List.range i).map fun j => ⟨1, X.getD j 0, (j : Int) + 1⟩
def rhD (X : List Int) (i : Nat) : List FStep := (List.range i).map fun j => ⟨4, X.getD j 0, 0⟩
def rhP (Y : List Int) (j : Nat) : List FStep := [⟨2, Y.getD j 0, 0⟩, ⟨3, Y.getD j 0, 0⟩]
def rhG (Y : List Int) (i : Nat) : List FStep := ((List.range i).map (rhP Y)).flatten
theorem rhE_succ (X : List Int) (i : Nat) : rhE X (i + 1) = rhE X i ++ [(X.getD i 0, (i : Int) + 1)] := by simp [rhE, List.range_succ]
theorem rhO_succ (X : List Int) (i : Nat) : rhO X (i + 1) = rhO X i ++ [(X.getD i 0, 0)] := by simp [rhO, List.range_succ]
theorem rhS_succ (X : List Int) (i : Nat) : rhS X (i + 1) = rhS X i ++ [⟨1, X.getD i 0, (i : Int) + 1⟩] := by simp [rhS, List.range_succ]
theorem rhD_succ (X : List Int) (i : Nat) : rhD X (i + 1) = rhD X i ++ [⟨4, X.getD i 0, 0⟩] := by simp [rhD, List.range_succ]
theorem rhG_succ (X : List Int) (i : Nat) : rhG X (i + 1) = rhG X i ++ rhP X i := by simp [rhG, List.range_succ]
theorem rhE_len (X : List Int) (i : Nat) : (rhE X i).length = i := by simp [rhE]
theorem rhO_len (X : List Int) (i : Nat) : (rhO X i).length = i := by simp [rhO]
theorem rhS_len (X : List Int) (i : Nat) : (rhS X i).length = i := by simp [rhS]
theorem rhD_len (X : List Int) (i : Nat) : (rhD X i).length = i := by simp [rhD]
theorem rhG_len (X : List Int) (i : Nat) : (rhG X i).length = 2 * i := by
  induction i with
  | zero => rfl
  | succ i ih => rw [rhG_succ, List.length_append, ih]; simp [rhP]; omega

theorem getD_ne {X : List Int} (h : X.Nodup) {i j : Nat} (hij : i < j) (hj : j < X.length) : X.getD i 0 ≠ X.getD j 0 := by
  intro e
  rw [List.getD_eq_getElem?_getD, List.getD_eq_getElem?_getD, List.getElem?_eq_getElem hj, List.getElem?_eq_getElem (by omega)] at e
  exact List.pairwise_iff_getElem.1 h i j (by omega) hj hij e
theorem rhE_mem {X : List Int} {i : Nat} {x : Int × Int} (h : x ∈ rhE X i) : ∃ j, j < i ∧ x = (X.getD j 0, (j : Int) + 1) := by
  unfold rhE at h
  obtain ⟨j, hj, rfl⟩ := List.mem_map.1 h
  exact ⟨j, List.mem_range.1 hj, rfl⟩
theorem rhE_dk {X : List Int} (h : X.Nodup) : ∀ i, i ≤ X.length → Dk (rhE X i) := by
  intro i
  induction i with
  | zero => intro _; exact List.Pairwise.nil
  | succ i ih =>
    intro hi
    rw [rhE_succ]
    refine List.pairwise_append.2 ⟨ih (by omega), List.pairwise_singleton _ _, fun a ha b hb => ?_⟩
    rw [List.mem_singleton.1 hb]
    obtain ⟨j, hj, rfl⟩ := rhE_mem ha
    exact getD_ne h hj hi
theorem look_app1 {l : Lst} {e : Int × Int} (h : ∀ x ∈ l, x.1 ≠ e.1) (k : Int) : look (l ++ [e]) k = if e.1 = k then some e.2 else look l k := by
  by_cases hk : e.1 = k
  · rw [if_pos hk]
    subst hk
    exact look_mid h
  · rw [if_neg hk]
    unfold look
    rw [List.find?_append]
    cases hf : l.find? (fun x => x.1 == k) with
    | some y => rfl
    | none => simp [hk]
theorem look_cons (e : Int × Int) (l : Lst) (k : Int) : look (e :: l) k = if e.1 = k then some e.2 else look l k := by
  unfold look
  rw [List.find?_cons]
  by_cases hk : e.1 = k
  · simp [hk]
  · have : (e.1 == k) = false := by simpa using hk
    simp [this, hk]
abbrev vi (o : Option Int) : Option Value := o.map (Value.int .u64)
def FiHas (st : FMap × Nat) (l : Lst) : Prop := (∀ k, Vm.get k st.1 = vi (look l k)) ∧ (Vm.keys st.1).Nodup
theorem fi_sets {X : List Int} (h : X.Nodup) : ∀ i, i ≤ X.length → FiHas (fiSt (rhS X i)) (rhE X i) := by
  intro i
  induction i with
  | zero => intro _; exact ⟨fun k => rfl, List.nodup_nil⟩
  | succ i ih =>
    intro hi
    obtain ⟨h1, h2⟩ := ih (by omega)
    rw [rhS_succ, fiSt_snoc]
    have e : fiNext (fiSt (rhS X i)) ⟨1, X.getD i 0, (i : Int) + 1⟩ = (Vm.put (X.getD i 0) (.int .u64 ((i : Int) + 1)) (fiSt (rhS X i)).1, (fiSt (rhS X i)).2 + 1) := rfl
    rw [e]
    refine ⟨fun k => ?_, ?_⟩
    · have hd := rhE_dk h (i + 1) hi
      rw [rhE_succ] at hd ⊢
      rw [look_app1 (fun x hx => (List.pairwise_append.1 hd).2.2 x hx _ (by simp))]
      simp only [Vm.get_put, h1]
      split <;> rfl
    · simp only [Vm.keys_put]
      split
      · exact h2
      · rename_i hn
        exact List.nodup_append.2 ⟨h2, List.nodup_cons.2 ⟨by simp, List.nodup_nil⟩, fun a ha b hb => by
          rw [List.mem_singleton.1 hb]
          rintro rfl
          exact hn ha⟩
theorem rhE_drop {X : List Int} {m j : Nat} (hj : j < m) : (rhE X m).drop j = (X.getD j 0, (j : Int) + 1) :: (rhE X m).drop (j + 1) := by
  rw [List.drop_eq_getElem_cons (by rw [rhE_len]; exact hj)]
  simp [rhE]
theorem fi_dels {X : List Int} (h : X.Nodup) (m : Nat) (hm : m ≤ X.length) : ∀ i, i ≤ m → FiHas (fiSt (rhS X m ++ rhD X i)) ((rhE X m).drop i) := by
  intro i
  induction i with
  | zero => intro _; simpa [rhD] using fi_sets h m hm
  | succ i ih =>
    intro hi
    obtain ⟨h1, h2⟩ := ih (by omega)
    rw [rhD_succ, ← List.append_assoc, fiSt_snoc]
    have e : (fiNext (fiSt (rhS X m ++ rhD X i)) ⟨4, X.getD i 0, 0⟩).1 = Vm.del (X.getD i 0) (fiSt (rhS X m ++ rhD X i)).1 := rfl
    unfold FiHas
    rw [e]
    refine ⟨fun k => ?_, ?_⟩
    · have hd : Dk ((rhE X m).drop i) := List.Pairwise.sublist (List.drop_sublist _ _) (rhE_dk h m hm)
      rw [rhE_drop (by omega)] at h1 hd
      rw [Vm.get_del h2, h1, look_cons]
      simp only
      split
      · rename_i hk
        subst hk
        rw [look_none fun x hx => ((List.pairwise_cons.1 hd).1 x hx).symm]
        rfl
      · rfl
    · rw [Vm.keys_del h2]
      exact h2.filter _
theorem fi_asks (Y : List Int) (s : FMap × Nat) : ∀ i, (rhG Y i).foldl fiNext s = s := by
  intro i
  induction i with
  | zero => rfl
  | succ i ih => rw [rhG_succ, List.foldl_append, ih]; rfl
def rhAll (X Y : List Int) (m n a : Nat) : List FStep := rhS X m ++ rhD X n ++ rhG Y a
theorem rhG_take (Y : List Int) (a : Nat) : ∀ i, i ≤ a → ∃ r, rhG Y a = rhG Y i ++ r := by
  induction a with
  | zero => intro i hi; obtain rfl : i = 0 := by omega
            exact ⟨[], rfl⟩
  | succ a ih =>
    intro i hi
    by_cases h : i = a + 1
    · subst h; exact ⟨[], by simp⟩
    · obtain ⟨r, hr⟩ := ih i (by omega)
      exact ⟨r ++ rhP Y a, by rw [rhG_succ, hr, List.append_assoc]⟩
theorem rhAll_len (X Y : List Int) (m n a : Nat) : (rhAll X Y m n a).length = m + n + 2 * a := by simp [rhAll, rhS_len, rhD_len, rhG_len]; omega
/-- what the map says to the questions -/
theorem rh_said {X : List Int} (h : X.Nodup) (Y : List Int) (m n a : Nat) (hm : m ≤ X.length) (hn : n ≤ m) (ans : List (Int × Bool)) (hl : ans.length = m + n + 2 * a) (ha : ∀ j b, ans[j]? = some b → fiAns (fiSt ((rhAll X Y m n a).take j)) (fstepAt (rhAll X Y m n a) j) b) (i : Nat) (hi : i < a) :
    ∃ b1 b2, ans[m + n + 2 * i]? = some b1 ∧ ans[m + n + 2 * i + 1]? = some b2 ∧ b1.1 = (look ((rhE X m).drop n) (Y.getD i 0)).getD 0 ∧ b1.2 = (look ((rhE X m).drop n) (Y.getD i 0)).isSome ∧ b2.2 = (look ((rhE X m).drop n) (Y.getD i 0)).isSome := by
  obtain ⟨r, hr⟩ := rhG_take Y a (i + 1) hi
  have hh := fi_dels h m hm n hn
  have e : rhAll X Y m n a = (rhS X m ++ rhD X n ++ rhG Y i) ++ (⟨2, Y.getD i 0, 0⟩ :: ⟨3, Y.getD i 0, 0⟩ :: r) := by
    unfold rhAll
    rw [hr, rhG_succ]
    simp [rhP]
  have hlen : (rhS X m ++ rhD X n ++ rhG Y i).length = m + n + 2 * i := by simp [rhS_len, rhD_len, rhG_len]; omega
  have hst : fiSt (rhS X m ++ rhD X n ++ rhG Y i) = fiSt (rhS X m ++ rhD X n) := by
    unfold fiSt
    rw [List.foldl_append (l' := rhG Y i), fi_asks]
  have hst2 : fiSt (rhS X m ++ rhD X n ++ rhG Y i ++ [⟨2, Y.getD i 0, 0⟩]) = fiSt (rhS X m ++ rhD X n) := by
    rw [fiSt_snoc, hst]; rfl
  have t1 : (rhAll X Y m n a).take (m + n + 2 * i) = rhS X m ++ rhD X n ++ rhG Y i := by
    rw [e, List.take_append_of_le_length (by omega), List.take_of_length_le (by omega)]
  have t2 : (rhAll X Y m n a).take (m + n + 2 * i + 1) = rhS X m ++ rhD X n ++ rhG Y i ++ [⟨2, Y.getD i 0, 0⟩] := by
    rw [e, ← hlen, List.take_append, List.take_of_length_le (by omega), Nat.add_sub_cancel_left]
    rfl
  have s1 : fstepAt (rhAll X Y m n a) (m + n + 2 * i) = ⟨2, Y.getD i 0, 0⟩ := by
    unfold fstepAt
    rw [e, List.getD_eq_getElem?_getD, List.getElem?_append_right (by omega), hlen, Nat.sub_self]; rfl
  have s2 : fstepAt (rhAll X Y m n a) (m + n + 2 * i + 1) = ⟨3, Y.getD i 0, 0⟩ := by
    unfold fstepAt
    rw [e, List.getD_eq_getElem?_getD, List.getElem?_append_right (by omega), hlen, show m + n + 2 * i + 1 - (m + n + 2 * i) = 1 by omega]; rfl
  obtain ⟨b1, hb1⟩ : ∃ b, ans[m + n + 2 * i]? = some b := ⟨_, List.getElem?_eq_getElem (by omega)⟩
  obtain ⟨b2, hb2⟩ : ∃ b, ans[m + n + 2 * i + 1]? = some b := ⟨_, List.getElem?_eq_getElem (by omega)⟩
  have a1 := ha _ _ hb1
  have a2 := ha _ _ hb2
  rw [t1, s1, hst] at a1
  rw [t2, s2, hst2] at a2
  unfold fiAns at a1 a2
  simp only [if_true, hh.1, if_neg (show ¬ (3 : Int) = 2 by decide)] at a1 a2
  refine ⟨b1, b2, hb1, hb2, ?_, ?_, ?_⟩
  · rw [a1.1]; cases look ((rhE X m).drop n) (Y.getD i 0) <;> rfl
  · rw [a1.2]; cases look ((rhE X m).drop n) (Y.getD i 0) <;> rfl
  · rw [a2.2]; cases look ((rhE X m).drop n) (Y.getD i 0) <;> rfl
theorem rh_ops (X Y : List Int) (m n a : Nat) : ∀ x ∈ rhAll X Y m n a, x.op = 1 ∨ x.op = 2 ∨ x.op = 3 ∨ x.op = 4 ∨ x.op = 5 ∨ x.op = 6 := by
  intro x hx
  unfold rhAll at hx
  simp only [List.mem_append, rhS, rhD, rhG, List.mem_map, List.mem_flatten] at hx
  rcases hx with (⟨j, _, rfl⟩ | ⟨j, _, rfl⟩) | ⟨l, ⟨j, _, rfl⟩, hx⟩
  · exact .inl rfl
  · exact .inr (.inr (.inr (.inl rfl)))
  · simp only [rhP, List.mem_cons, List.not_mem_nil, or_false] at hx
    rcases hx with rfl | rfl
    · exact .inr (.inl rfl)
    · exact .inr (.inr (.inl rfl))

theorem delAll_keys (X : List Int) (m : Nat) : ∀ (n : Nat) (L : Lst), n ≤ m → delAll L (rhO X n) = delAll L ((rhE X m).take n) := by
  intro n
  induction n with
  | zero => intro L _; rfl
  | succ n ih =>
    intro L hn
    rw [rhO_succ, List.take_succ_eq_append_getElem (by rw [rhE_len]; omega)]
    unfold delAll at ih ⊢
    rw [List.foldl_append, List.foldl_append, ih L (by omega)]
    simp [rhE]
theorem twn_swap {a b c : Lst} (h : Twn (a ++ b) c) : Twn (b ++ a) c := ⟨List.perm_append_comm.trans h.1, h.2⟩
/-- what the tree's script says last -/
theorem rh_runs {X : List Int} (h : X.Nodup) (Y : List Int) (m n a : Nat) (hm : m = X.length) (hm0 : 0 < m) (hm1 : m ≤ 40) (hn : n < m) (ha0 : 0 < a) (ha : a ≤ 100) :
    ∃ L, Twn ((rhE X m).drop n) L ∧
      (n = 0 → ∃ σ u0, ARuns [some []] [⟨1, 0, rhE X m⟩, ⟨3, 1, rhO Y a⟩] [u0, ⟨L.length, getOs L (rhO Y a)⟩] σ) ∧
      (0 < n → ∃ σ u0 u1, ARuns [some []] [⟨1, 0, rhE X m⟩, ⟨2, 1, rhO X n⟩, ⟨3, 2, rhO Y a⟩] [u0, u1, ⟨L.length, getOs L (rhO Y a)⟩] σ) := by
  have hd := rhE_dk h m (by omega)
  have t1 : Twn (rhE X m) (insAll [] (rhE X m)) := by
    have := Twn.puts (rhE X m) (a := []) (b := []) ⟨List.Perm.refl _, List.Pairwise.nil⟩ (by rw [List.nil_append]; exact hd)
    simpa using this
  have hl1 : (insAll [] (rhE X m)).length ≤ 90000 := by rw [← t1.len, rhE_len]; omega
  by_cases h0 : n = 0
  · subst h0
    refine ⟨insAll [] (rhE X m), by simpa using t1, fun _ => ?_, fun h => absurd h (by omega)⟩
    exact ⟨_, _, .cons (by decide) ⟨[], rfl, by decide, by rw [rhE_len]; exact hm0, by rw [rhE_len]; omega, .inl ⟨rfl, rfl, rfl⟩⟩ (.cons (by simp) ⟨_, rfl, hl1, by rw [rhO_len]; exact ha0, by rw [rhO_len]; exact ha, .inr (.inr ⟨rfl, rfl, rfl⟩)⟩ (.nil _))⟩
  · have hsp : (rhE X m).take n ++ (rhE X m).drop n = rhE X m := List.take_append_drop n _
    have t2 : Twn ((rhE X m).drop n ++ (rhE X m).take n) (insAll [] (rhE X m)) := twn_swap (by rw [hsp]; exact t1)
    have hd2 : Dk ((rhE X m).drop n ++ (rhE X m).take n) := by
      rw [← hsp] at hd
      have := List.pairwise_append.1 hd
      exact List.pairwise_append.2 ⟨this.2.1, this.1, fun a ha b hb => (this.2.2 b hb a ha).symm⟩
    have t3 := (Twn.takes ((rhE X m).take n) t2 hd2).1
    rw [← delAll_keys X m n _ (by omega)] at t3
    refine ⟨_, t3, fun h => absurd h h0, fun _ => ?_⟩
    exact ⟨_, _, _, .cons (by decide) ⟨[], rfl, by decide, by rw [rhE_len]; exact hm0, by rw [rhE_len]; omega, .inl ⟨rfl, rfl, rfl⟩⟩ (.cons (by simp) ⟨_, rfl, hl1, by rw [rhO_len]; omega, by rw [rhO_len]; omega, .inr (.inl ⟨rfl, rfl, rfl⟩)⟩ (.cons (by simp) ⟨_, rfl, by rw [← t3.len, List.length_drop, rhE_len]; omega, by rw [rhO_len]; exact ha0, by rw [rhO_len]; exact ha, .inr (.inr ⟨rfl, rfl, rfl⟩)⟩ (.nil _)))⟩
/-- what the tree says to a question -/
theorem rh_get {R L : Lst} (h : Twn R L) (Y : List Int) (a i : Nat) (hi : i < a) : (getOs L (rhO Y a))[i]? = some (kvO (Y.getD i 0) (look R (Y.getD i 0))) := by
  unfold getOs
  rw [rhO_len, List.getElem?_map, List.getElem?_range hi]
  have hk : keyAt (rhO Y a) i = Y.getD i 0 := by unfold keyAt rhO; simp [List.getD_eq_getElem?_getD, hi]
  simp only [Option.map_some, hk, ← h.lk]
end Go.Proofs.Ytidekgmpbcnfmaa
namespace Go.Proofs.Ytidekgmpbcnfmaa
set_option linter.unusedVariables false
open Go.RowKit Avm

theorem info_istep : (Try.prog.info? 45).map (fun i => (i.zero, i.size, i.bytes)) = some (some (.agg #[.int .i64 0, .int .u64 0, .int .u64 0]), 3, 24) := by kernel_rfl
theorem info_avstep : (Try.prog.info? 32).map (fun i => (i.zero, i.size, i.bytes)) = some (some (.agg #[.int .i64 0, .int .i64 0, .slice none 0 0]), 3, 40) := by kernel_rfl

def ints (X : List Nat) : List Int := X.map fun (x : Nat) => (x : Int)
theorem ints_len (X : List Nat) : (ints X).length = X.length := by simp [ints]
theorem ints_nd {X : List Nat} (h : X.Nodup) : (ints X).Nodup := by
  unfold ints
  exact List.Pairwise.map _ (fun a b hab e => hab (by omega)) h
theorem ints_at (X : List Nat) (i : Nat) : (ints X).getD i 0 = ((X.getD i 0 : Nat) : Int) := by
  unfold ints
  rw [List.getD_eq_getElem?_getD, List.getD_eq_getElem?_getD, List.getElem?_map]
  cases X[i]? <;> rfl

/-- sets and entries made so far -/
def RhA (X : List Int) (m B : Nat) (w1 : World) (k : Nat) (st en idx : Value) (wr : World) : Prop :=
  ∃ (i c d : Nat) (p q : Option Addr), idx = .int .i64 (i : Int) ∧ i + k = m ∧ st = .slice p i c ∧ en = .slice q i d ∧ wr.ownsRow B 45 3 (.slice p i c) i ((rhS X i).map stepRow).flatten ∧ wr.ownsRow B 25 2 (.slice q i d) i (aes (rhE X i)).flatten ∧ Below B w1 wr
theorem rhP_three (A : List Int) (q : Nat) : ∀ r ∈ (rhP A q).map stepRow, r.length = 3 := by
  intro r hr
  simp [rhP] at hr
  rcases hr with rfl | rfl <;> rfl
theorem rhP_one (A : List Int) (q : Nat) : ∀ u ∈ ((rhP A q).map stepRow).flatten, u.oneCell' = true := by
  intro u hu
  have h : u ∈ [Value.int .i64 2, .int .u64 (A.getD q 0), .int .u64 0, .int .i64 3, .int .u64 (A.getD q 0), .int .u64 0] := hu
  simp only [List.mem_cons, List.not_mem_nil, or_false] at h
  rcases h with rfl | rfl | rfl | rfl | rfl | rfl <;> rfl
theorem rwNew {S : Nat} (w : World) (e : TypeId) (cs : Array Value) (rows : List (List Value)) (hS : ∀ r ∈ rows, r.length = S) (hc : cs.toList = rows.flatten) (n : Nat) (hn : rows.length = n) (hm : n ≤ maxLen) : Rw S (w.alloc (.cells cs e)) (.slice (some ⟨w.heap.size, 0, none⟩) n n) rows := by
  refine ⟨_, n, n, rfl, hn, Nat.le_refl _, hm, fun _ => ⟨_, 0, rfl, fun i row hi j u hu => ?_⟩⟩
  have hf := flatten_at S rows hS i j row u hi hu
  rw [Nat.zero_add]
  refine (Blk.new w e cs).cell (i * S + j) ?_
  rw [← Array.getElem?_toList, hc]
  exact hf
/-- deletions made so far -/
def RhB (X : List Int) (m n B : Nat) (en : Value) (w1 : World) (k : Nat) (st ou idx : Value) (wr : World) : Prop :=
  ∃ (i c d : Nat) (p q : Option Addr), idx = .int .i64 (i : Int) ∧ i + k = n ∧ st = .slice p (m + i) c ∧ ou = .slice q i d ∧ wr.ownsRow B 45 3 (.slice p (m + i) c) (m + i) ((rhS X m ++ rhD X i).map stepRow).flatten ∧ wr.ownsRow w1.heap.size 25 2 (.slice q i d) i (aes (rhO X i)).flatten ∧ wr.ownsRow B 25 2 en m (aes (rhE X m)).flatten ∧ Below B w1 wr
/-- questions made so far -/
def RhC (X Y : List Int) (m n a B : Nat) (en ou : Value) (w1 : World) (k : Nat) (st qu idx : Value) (wr : World) : Prop :=
  ∃ (i c d : Nat) (p q : Option Addr), idx = .int .i64 (i : Int) ∧ i + k = a ∧ st = .slice p (m + n + 2 * i) c ∧ qu = .slice q i d ∧ wr.ownsRow B 45 3 (.slice p (m + n + 2 * i) c) (m + n + 2 * i) ((rhAll X Y m n i).map stepRow).flatten ∧ wr.ownsRow w1.heap.size 25 2 (.slice q i d) i (aes (rhO Y i)).flatten ∧ wr.ownsRow B 25 2 en m (aes (rhE X m)).flatten ∧ wr.ownsRow B 25 2 ou n (aes (rhO X n)).flatten ∧ Below B w1 wr
/-- behind the appending of two steps -/
def RhCut (X Y : List Int) (m n q B : Nat) (en ou : Value) (w1 : World) (r : Option Addr) (c : Nat) (p : Option Addr) (d : Nat) (wx : World) : Prop :=
  wx.ownsRow B 45 3 (.slice r (m + n + 2 * (q + 1)) c) (m + n + 2 * (q + 1)) ((rhAll X Y m n (q + 1)).map stepRow).flatten ∧ wx.ownsRow w1.heap.size 25 2 (.slice p q d) q (aes (rhO Y q)).flatten ∧ wx.ownsRow B 25 2 en m (aes (rhE X m)).flatten ∧ wx.ownsRow B 25 2 ou n (aes (rhO X n)).flatten
theorem rhAll_succ (X Y : List Int) (m n i : Nat) : rhAll X Y m n (i + 1) = rhAll X Y m n i ++ rhP Y i := by
  unfold rhAll
  rw [rhG_succ, ← List.append_assoc]
def rhL (n : Nat) : Nat := if n = 0 then 1 else 2
def rhR (n : Nat) (en ou : Value) : List (List Value) := if n = 0 then [[.int .i64 1, .int .i64 0, en]] else [[.int .i64 1, .int .i64 0, en], [.int .i64 2, .int .i64 1, ou]]
def rhScr (n : Nat) (E O : Lst) : List AStp := if n = 0 then [⟨1, 0, E⟩] else [⟨1, 0, E⟩, ⟨2, 1, O⟩]
theorem rhR_len (n : Nat) (en ou : Value) : (rhR n en ou).length = rhL n := by unfold rhR rhL; split <;> rfl
theorem rhR_three (n : Nat) (en ou : Value) : ∀ r ∈ rhR n en ou, r.length = 3 := by
  unfold rhR
  split <;> (intro r hr; simp at hr)
  · subst hr; rfl
  · rcases hr with rfl | rfl <;> rfl
theorem own_lit (w : World) (B : Nat) (e : TypeId) (S n : Nat) (cs : Array Value) (hB : B ≤ w.heap.size) (hs : cs.size = n * S) (hn : n ≤ maxLen) : (w.alloc (.cells cs e)).ownsRow B e S (.slice (some ⟨w.heap.size, 0, none⟩) n n) n cs.toList :=
  ⟨by simp [hs], .inr ⟨w.heap.size, n, cs, rfl, hB, heap_alloc_new w _, Nat.le_refl _, hn, hs, by rw [← hs, ← Array.length_toList]; exact List.take_length⟩⟩
theorem rh_script {X : List Int} (h : X.Nodup) (Y : List Int) (m n a : Nat) (hm : m = X.length) (hm0 : 0 < m) (hm1 : m ≤ 40) (hn : n < m) (ha0 : 0 < a) (ha : a ≤ 100) :
    ∃ L, Twn ((rhE X m).drop n) L ∧ ∃ U σ, U.length = rhL n ∧ ARuns [some []] (rhScr n (rhE X m) (rhO X n) ++ [⟨3, rhL n, rhO Y a⟩]) (U ++ [⟨L.length, getOs L (rhO Y a)⟩]) σ := by
  obtain ⟨L, h1, h2, h3⟩ := rh_runs h Y m n a hm hm0 hm1 hn ha0 ha
  refine ⟨L, h1, ?_⟩
  by_cases hn0 : n = 0
  · obtain ⟨σ, u0, hr⟩ := h2 hn0
    unfold rhL rhScr
    rw [if_pos hn0, if_pos hn0]
    exact ⟨[u0], σ, rfl, hr⟩
  · obtain ⟨σ, u0, u1, hr⟩ := h3 (by omega)
    unfold rhL rhScr
    rw [if_neg hn0, if_neg hn0]
    exact ⟨[u0, u1], σ, rfl, hr⟩
theorem asteps_nil (w : World) : AStepsAt w [] [] := ⟨rfl, fun i row s hr _ => by simp at hr⟩
theorem asteps_cons {w : World} {R : List (List Value)} {S : List AStp} (h : AStepsAt w R S) (op frm : Nat) (es : Lst) (v : Value) (hv : Rw 2 w v (aes es)) : AStepsAt w ([.int .i64 (op : Int), .int .i64 (frm : Int), v] :: R) (⟨op, frm, es⟩ :: S) := by
  refine ⟨by simp [h.1], fun i row s hr hs => ?_⟩
  cases i with
  | zero =>
    simp at hr hs
    subst hr hs
    exact ⟨v, rfl, hv⟩
  | succ i =>
    simp at hr hs
    exact h.2 i row s hr hs
theorem rh_steps {w : World} {n : Nat} {en ou qu : Value} {E O Q : Lst} (he : Rw 2 w en (aes E)) (ho : Rw 2 w ou (aes O)) (hq : Rw 2 w qu (aes Q)) : AStepsAt w (rhR n en ou ++ [[.int .i64 3, .int .i64 ((rhL n : Nat) : Int), qu]]) (rhScr n E O ++ [⟨3, rhL n, Q⟩]) := by
  unfold rhR rhScr rhL
  split
  · exact asteps_cons (asteps_cons (asteps_nil w) 3 1 Q qu hq) 1 0 E en he
  · exact asteps_cons (asteps_cons (asteps_cons (asteps_nil w) 3 2 Q qu hq) 2 1 O ou ho) 1 0 E en he
theorem cnt_le3 (xs : List FStep) : (fiSt xs).2 ≤ xs.length := by
  suffices ∀ s : FMap × Nat, (xs.foldl fiNext s).2 ≤ s.2 + xs.length by
    have := this ([], 0)
    simpa [fiSt] using this
  induction xs with
  | nil => intro s; simp
  | cons x r ih =>
    intro s
    rw [List.foldl_cons]
    have h := ih (fiNext s x)
    have e : (fiNext s x).2 ≤ s.2 + 1 := by
      unfold fiNext
      split
      · exact Nat.le_refl _
      · split
        · simp only
          split <;> omega
        · omega
    simp only [List.length_cons]
    omega
theorem look_small {X : List Int} {m n : Nat} {k v : Int} (h : look ((rhE X m).drop n) k = some v) : 0 ≤ v ∧ v ≤ (m : Int) := by
  unfold look at h
  cases hf : ((rhE X m).drop n).find? (fun x => x.1 == k) with
  | none => rw [hf] at h; cases h
  | some e =>
    rw [hf] at h
    have h1 := List.mem_of_find?_eq_some hf
    obtain ⟨j, hj, rfl⟩ := rhE_mem (List.mem_of_mem_drop h1)
    simp at h
    omega
/-- what both say to a question, in memory -/
def RhAns (w : World) (bq oq b7 o7 b8 o8 N t : Nat) : Prop :=
  ∃ (vv : Int) (bb : Bool) (xn kk : Int), 0 ≤ vv ∧ vv ≤ 40 ∧ w.cell? ⟨bq, oq + N * 2, none⟩ = some (.int .u64 vv) ∧ w.cell? ⟨bq, oq + N * 2 + 1, none⟩ = some (.bool bb) ∧ w.cell? ⟨bq, oq + (N + 1) * 2, none⟩ = some (.int .u64 xn) ∧ w.cell? ⟨bq, oq + (N + 1) * 2 + 1, none⟩ = some (.bool bb) ∧
    w.cell? ⟨b7, o7 + t * 2 + 1, none⟩ = some (.int .i64 vv) ∧ w.cell? ⟨b8, o8 + t, none⟩ = some (.bool bb)
theorem rh_ans_of {w : World} {bq oq b7 o7 b8 o8 N t m n : Nat} {ans : List (Int × Bool)} {r1 r2 : Int × Bool} {X : List Int} {os : List (Option (Int × Int))} {k : Int} (hm : m ≤ 40) (h1 : ans[N]? = some r1) (h2 : ans[N + 1]? = some r2)
    (x1 : r1.1 = (look ((rhE X m).drop n) k).getD 0) (x2 : r1.2 = (look ((rhE X m).drop n) k).isSome) (x3 : r2.2 = (look ((rhE X m).drop n) k).isSome) (hg : os[t]? = some (kvO k (look ((rhE X m).drop n) k)))
    (hc4 : ∀ i row, (ans.map ansRow)[i]? = some row → ∀ j u, row[j]? = some u → w.cell? ⟨bq, oq + (i * 2 + j), none⟩ = some u) (hc7 : ∀ i row, (aes (os.map oget))[i]? = some row → ∀ j u, row[j]? = some u → w.cell? ⟨b7, o7 + (i * 2 + j), none⟩ = some u)
    (hc8 : ∀ i u, (bvs (os.map Option.isSome))[i]? = some u → w.cell? ⟨b8, o8 + i, none⟩ = some u) : RhAns w bq oq b7 o7 b8 o8 N t := by
  have a1 := hc4 N (ansRow r1) (by rw [List.getElem?_map, h1]; rfl)
  have a2 := hc4 (N + 1) (ansRow r2) (by rw [List.getElem?_map, h2]; rfl)
  have a3 := hc7 t _ (by unfold aes; rw [List.getElem?_map, List.getElem?_map, hg]; rfl) 1 _ rfl
  have a4 := hc8 t _ (by unfold bvs; rw [List.getElem?_map, List.getElem?_map, hg]; rfl)
  have c1 := a1 0 _ rfl
  have c2 := a1 1 _ rfl
  have c3 := a2 0 _ rfl
  have c4 := a2 1 _ rfl
  rw [x1] at c1
  rw [x2] at c2
  rw [x3] at c4
  refine ⟨_, _, r2.1, 0, ?_, ?_, c1, c2, c3, c4, ?_, ?_⟩
  · cases ho : look ((rhE X m).drop n) k with
    | none => exact Int.le_refl _
    | some v => exact (look_small ho).1
  · cases ho : look ((rhE X m).drop n) k with
    | none => decide
    | some v => have := (look_small ho).2; simp; omega
  · rw [Nat.add_assoc]
    cases ho : look ((rhE X m).drop n) k with
    | none => rw [ho] at a3; exact a3
    | some v => rw [ho] at a3; exact a3
  · cases ho : look ((rhE X m).drop n) k with
    | none => rw [ho] at a4; exact a4
    | some v => rw [ho] at a4; exact a4
theorem rh_boxes (w : World) (a b : Array Value) (T : TypeId) : Blk ((w.alloc (.cells a T)).alloc (.cells b T)).drew w.heap.size T a ∧ Blk ((w.alloc (.cells a T)).alloc (.cells b T)).drew (w.heap.size + 1) T b ∧ Below w.heap.size w ((w.alloc (.cells a T)).alloc (.cells b T)).drew := by
  have h2 := Blk.new (w.alloc (.cells a T)) T b
  rw [World.size_alloc] at h2
  exact ⟨((Blk.new w T a).alloc (.cells b T)).drew, h2.drew, (((Below.refl _ _).alloc (Nat.le_refl _) _).alloc (by rw [World.size_alloc]; omega) _).drew⟩
theorem below_lt {w w' : World} {p : Addr} {u : Value} (h : Below w.heap.size w w') (hc : w.cell? p = some u) : p.block < w'.heap.size := Nat.lt_of_lt_of_le (World.block_lt_of_cell? w _ hc) h.size
/-- a row that lies below, and one that begins there -/
theorem row_sep {w w1 : World} {e2 : Nat} {t2 : TypeId} {u v : Value} {m : Nat} {ys : List Value} (h1 : ∀ k ∈ obl u, k < w1.heap.size) (h2 : w.ownsRow w1.heap.size t2 e2 v m ys) : ∀ k ∈ obl u, k ∉ obl v := fun k hk hk2 => by
  have a := h1 k hk
  have b := (own_lt h2 k hk2).2
  omega

theorem rhc_step {X Y : List Int} {m n q B cs cq : Nat} {ps pq : Option Addr} {en ou : Value} {w1 wr w5 w6 : World}
    (hs : wr.ownsRow B 45 3 (.slice ps (m + n + 2 * q) cs) (m + n + 2 * q) ((rhAll X Y m n q).map stepRow).flatten) (hq : wr.ownsRow w1.heap.size 25 2 (.slice pq q cq) q (aes (rhO Y q)).flatten)
    (he : wr.ownsRow B 25 2 en m (aes (rhE X m)).flatten) (ho : wr.ownsRow B 25 2 ou n (aes (rhO X n)).flatten) (hb5 : Below wr.heap.size wr w5)
    {g6 : Option Addr} {m6 k6 : Nat} (h6 : w6.ownsRow B 45 3 (.slice g6 m6 k6) (m + n + 2 * q + ((rhP Y q).map stepRow).length) (((rhAll X Y m n q).map stepRow).flatten ++ ((rhP Y q).map stepRow).flatten)) (hg : w5.grownBy w6 (Value.slice ps (m + n + 2 * q) cs).ownBlock) :
    m6 = m + n + 2 * (q + 1) ∧ RhCut X Y m n q B en ou w1 g6 k6 pq cq w6 := by
  have hs5 := own_below hs hb5
  have e : m + n + 2 * q + ((rhP Y q).map stepRow).length = m + n + 2 * (q + 1) := by simp [rhP]; omega
  rw [e, ← List.flatten_append, ← List.map_append, ← rhAll_succ] at h6
  have e6 := own_nK h6
  subst e6
  have hf := Fr.of_grown (v' := .slice ps (m + n + 2 * q) cs) hg (fun k h => .inl h)
  exact ⟨rfl, h6, hf.own (own_below hq hb5) (row_row (own_below hq hb5) hs5 (by decide)), hf.own (own_below he hb5) (row_row (own_below he hb5) hs5 (by decide)), hf.own (own_below ho hb5) (row_row (own_below ho hb5) hs5 (by decide))⟩

set_option maxRecDepth 100000 in
set_option maxHeartbeats 8000000 in
theorem law_roadhash (v0 v1 v2 : Value) (g : Nat) (w : World) (w0 : IsInts .u16 w v0) (w1 : IsInts .u16 w v1) (hg : v2 = .int .u8 (g : Int)) (hg2 : g < 256) :
    Calls Try.prog 4 #[v0, v1, v2] w fun e w' => e = .returned (.bool true) ∧ Below w.heap.size w w' := by
  subst hg
  obtain ⟨xs, hx, hxb⟩ := nats16t_of w0
  obtain ⟨ys, hy, hyb⟩ := nats16t_of w1
  clear w0 w1
  have HX := Lib.hid hx
  have HY := Lib.hid hy
  have HXB := Lib.hid hxb
  have HYB := Lib.hid hyb
  obtain ⟨a0, n0, c0, rfl, hl0, -, -, -⟩ := hx
  obtain ⟨a1, n1, c1, rfl, hl1, -, -, -⟩ := hy
  rw [u16t_len] at hl0 hl1
  have HL0 := Lib.hid hl0
  have HL1 := Lib.hid hl1
  clear hxb hyb hl0 hl1
  go_enter Try.func4, Try.ntmps4
  by_cases z0 : (2147483647 : Int) < (n0 : Int)
  · have d0 : decide ((2147483647 : Int) < (n0 : Int)) = true := by simpa using z0
    clear z0
    go_wp2_with fail
    go_ret
    exact ⟨rfl, Below.refl _ _⟩
  have d0 : decide ((2147483647 : Int) < (n0 : Int)) = false := by simpa using z0
  by_cases z1 : (2147483647 : Int) < (n1 : Int)
  · have d1 : decide ((2147483647 : Int) < (n1 : Int)) = true := by simpa using z1
    clear z0 z1
    go_wp2_with fail
    go_ret
    exact ⟨rfl, Below.refl _ _⟩
  have d1 : decide ((2147483647 : Int) < (n1 : Int)) = false := by simpa using z1
  have m0 : n0 ≤ 2147483647 := by omega
  have m1 : n1 ≤ 2147483647 := by omega
  clear z0 z1
  go_wp2_with fail
  refine (turned_any _ xs 40 w HX.out HXB.out (by decide) (by rw [HL0.out]; exact m0)).mono ?_
  rintro e w2 ⟨q, c, X, rfl, hox, hnd, hxl, hxb, hb2⟩
  obtain ⟨m, hm⟩ : ∃ m, X.length = m := ⟨_, rfl⟩
  rw [hm] at hox hxl ⊢
  have HM := Lib.hid hm
  have HOX := Lib.hid hox
  have HND := Lib.hid hnd
  have HXB2 := Lib.hid hxb
  have HB2 := Lib.hid hb2
  clear hm hox hnd hxb
  by_cases hm0 : m = 0
  · subst hm0
    clear hb2
    go_wp2_with fail
    go_ret
    exact ⟨rfl, HB2.out⟩
  · have bm : ((m : Int) == 0) = false := by rw [beq_eq_false_iff_ne]; omega
    have HY2 := Lib.hid (HY.out.below rfl hb2)
    have HSX := Lib.hid (Sl.of_owns HOX.out)
    obtain ⟨n, hn⟩ : ∃ n : Nat, (g : Int) % (m : Int) = (n : Int) := ⟨g % m, by omega⟩
    have hnm : n < m := by
      have := Int.emod_lt_of_pos (g : Int) (show (0 : Int) < (m : Int) by omega)
      omega
    have hlx : (u64s X).length = m := by rw [u64s_len, HM.out]
    have HLX := Lib.hid hlx
    clear hb2 hlx
    go_wp2_with (at_builtin; refine wpList_appendSl rfl _ _ 40 40 rfl w2.heap.size 42 42 (.int .u64 0) 8 Try.underlying40 Try.underlying40 info_u64 rfl _ 0 [] rfl (own_empty w2 _ _ (Nat.le_refl _)) (.slice q m c) (u64s X) rfl (HSX.out.later ((Below.refl _ _).alloc (Nat.le_refl _) _)) (u64s_one _) (by rw [HLX.out]; unfold maxLen; omega) (by rw [HLX.out]; omega) (by simp) ?_; intro p3 m3 c3 w3 hown3 hg3 hb3; have HO3 := Lib.hid hown3; have HB3 := Lib.hid (((Below.refl w2.heap.size w2).alloc (Nat.le_refl _) (.cells #[] 42)).trans hb3); clear hown3 hg3 hb3)
    have ho3 := HO3.out
    rw [HLX.out, Nat.zero_add, List.nil_append] at ho3
    have e3 : m = m3 := (own_nK ho3).symm
    subst e3
    have HO3' := Lib.hid ho3
    clear ho3 HO3
    refine (turned_any (.slice a1 n1 c1) ys 20 w3 (HY2.out.below rfl HB3.out) HYB.out (by decide) (by rw [HL1.out]; exact m1)).mono ?_
    rintro e w4 ⟨q4, c4, Y, rfl, hoy, -, hyl, hyb, hb4⟩
    obtain ⟨y, hy⟩ : ∃ y, Y.length = y := ⟨_, rfl⟩
    rw [hy] at hoy hyl ⊢
    have HYL := Lib.hid hy
    have HSY := Lib.hid (Sl.of_owns hoy)
    have HYB2 := Lib.hid hyb
    have HB4 := Lib.hid hb4
    have HO4 := Lib.hid (own_below HO3'.out hb4)
    have hly : (u64s Y).length = y := by rw [u64s_len, hy]
    have HLY := Lib.hid hly
    have hs4 : w2.heap.size ≤ w4.heap.size := Nat.le_trans HB3.out.size hb4.size
    clear hy hoy hyb hb4 hly
    go_wp2_with (at_builtin; refine wpList_appendSl rfl _ _ 40 40 rfl w2.heap.size 42 42 (.int .u64 0) 8 Try.underlying40 Try.underlying40 info_u64 rfl (.slice p3 m c3) m (u64s X) rfl HO4.out (.slice q4 y c4) (u64s Y) rfl HSY.out (u64s_one _) (by rw [HLY.out]; unfold maxLen; omega) (by rw [HLY.out]; omega) hs4 ?_; intro p5 m5 c5 w5 hown5 hg5 hb5; have HO5 := Lib.hid hown5; have HB5 := Lib.hid hb5; clear hown5 hg5 hb5)
    have ho5 := HO5.out
    rw [HLY.out, ← u64s_append] at ho5
    have e5 : m + y = m5 := (own_nK ho5).symm
    subst e5
    have hb25 : Below w2.heap.size w2 w5 := (HB3.out.trans (HB4.out.mono HB3.out.size)).trans HB5.out
    have hbw5 : Below w.heap.size w w5 := HB2.out.trans (hb25.mono HB2.out.size)
    have hal : (X ++ Y).length = m + y := by rw [List.length_append, HM.out, HYL.out]
    obtain ⟨_, _, ex, hxs⟩ := (Us.of (own_below HOX.out hb25)).shape
    rw [HM.out] at ex hxs
    injection ex with ex1 ex2 ex3
    subst ex1 ex3
    obtain ⟨bx, rfl, hxc⟩ := hxs (by omega)
    obtain ⟨_, _, ea, has⟩ := (Us.of ho5).shape
    rw [hal] at ea has
    injection ea with ea1 ea2 ea3
    subst ea1 ea3
    obtain ⟨ba, rfl, hac⟩ := has (by omega)
    obtain ⟨M, hM⟩ : ∃ M, m + y = M := ⟨_, rfl⟩
    have hM60 : M ≤ 60 := by omega
    have hmM : m ≤ M := by omega
    rw [hM] at has hac
    rw [hM]
    obtain ⟨A, hA⟩ : ∃ A, ints (X ++ Y) = A := ⟨_, rfl⟩
    obtain ⟨Z, hZ⟩ : ∃ Z, ints X = Z := ⟨_, rfl⟩
    have hxc' : ∀ i, i < m → w5.cell? ⟨bx, i, none⟩ = some (.int .u64 (Z.getD i 0)) := fun i hi => by rw [hxc i hi, ← hZ, ints_at]
    have hac' : ∀ i, i < M → w5.cell? ⟨ba, i, none⟩ = some (.int .u64 (A.getD i 0)) := fun i hi => by rw [hac i hi, ← hA, ints_at]
    have hZA : ∀ i, i < m → A.getD i 0 = Z.getD i 0 := fun i hi => by
      rw [← hA, ← hZ, ints_at, ints_at, List.getD_eq_getElem?_getD, List.getElem?_append_left (by rw [HM.out]; exact hi), List.getD_eq_getElem?_getD]
    have hAb : ∀ i, 0 ≤ A.getD i 0 ∧ A.getD i 0 < 65536 := fun i => by
      rw [← hA, ints_at]
      refine ⟨by omega, ?_⟩
      have : (X ++ Y).getD i 0 < 65536 := by
        rw [List.getD_eq_getElem?_getD]
        cases hq : (X ++ Y)[i]? with
        | none => simp
        | some x =>
          rcases List.mem_append.1 (List.mem_of_getElem? hq) with h | h
          · exact HXB2.out x h
          · exact HYB2.out x h
      omega
    have hZn : Z.Nodup := by rw [← hZ]; exact ints_nd HND.out
    have hZl : Z.length = m := by rw [← hZ, ints_len, HM.out]
    have HXC := Lib.hid hxc'
    have HAC := Lib.hid hac'
    have HZA := Lib.hid hZA
    have HAB := Lib.hid hAb
    have HZN := Lib.hid hZn
    have HZL := Lib.hid hZl
    have HBW := Lib.hid hbw5
    clear hM hxc hac hxs has hA hZ hxc' hac' hZA hAb hZn hZl hbw5 hb25 ho5 hal ea2 ex2 HO5 HO4 HB5 HB4 HB3 HLY HSY HYL HYB2 HLX HSX HY2 HX HY HXB HYB HL0 HL1 HOX HND HXB2 HB2 HO3' HM hyl hs4 m0 m1 d0 d1
    rw [hn]
    clear hn
    obtain ⟨B, hB⟩ : ∃ B, w5.heap.size = B := ⟨_, rfl⟩
    have HB := Lib.hid hB
    clear hB
    go_loopg [10, 11, 14] m (fun k st en idx wr => RhA Z m B w5 k st en idx wr)
    case atStart => exact ⟨0, 0, 0, none, none, rfl, by omega, rfl, rfl, World.ownsRow_nil _ _ _ _, World.ownsRow_nil _ _ _ _, Below.refl _ _⟩
    case round =>
      obtain ⟨i, cs, ce, ps, pe, rfl, hik, rfl, rfl, hos, hoe, hbel⟩ := hrel
      have HOS := Lib.hid hos
      have HOE := Lib.hid hoe
      have HBE := Lib.hid hbel
      clear hos hoe
      by_cases hi : i < m
      · have hci := HXC.out i hi
        rw [← hbel.cell (p := ⟨bx, i, none⟩) (by rw [← HB.out]; exact World.block_lt_of_cell? w5 _ hci)] at hci
        obtain ⟨K, hK⟩ : ∃ K, Z.getD i 0 = K := ⟨_, rfl⟩
        have hKb := HAB.out i
        rw [HZA.out i hi, hK] at hKb
        rw [hK] at hci
        have HK := Lib.hid hK
        have hw1 : IntKind.u64.wrap ((i : Int) + 1) = (i : Int) + 1 := by simp only [IntKind.wrap, IntKind.signed, IntKind.bits]; simp; omega
        have hw2 : IntKind.i64.wrap K = K := by simp only [IntKind.wrap, IntKind.signed, IntKind.bits]; simp; omega
        have i1 : (i : Int) < (m : Int) := by omega
        have i2 : (0 : Int) ≤ (i : Int) := by omega
        have hBs : B ≤ wr.heap.size := by rw [← HB.out]; exact hbel.size
        have hbxB : bx < B := by rw [← HB.out]; exact World.block_lt_of_cell? w5 _ (HXC.out i hi)
        clear hbel hK
        cases gk with
        | zero => omega
        | succ k =>
          go_wp2_with (at_builtin; first
            | (refine wpList_appendS rfl _ _ 43 rfl B 3 45 (.agg #[.int .i64 0, .int .u64 0, .int .u64 0]) 24 Try.underlying43 info_istep rfl (by decide) (.slice ps i cs) i ((rhS Z i).map stepRow).flatten rfl HOS.out #[.int .i64 1, .int .u64 K, .int .u64 ((i : Int) + 1)] rfl rfl (by intro u hu; simp at hu; rcases hu with rfl | rfl | rfl <;> rfl) (by unfold maxLen; omega) (by omega) hBs ?_; intro g6 k6 w6 hown6 hg6 hb6; have HO6 := Lib.hid hown6; have hc6 := (hb6.cell (p := ⟨bx, i, none⟩) hbxB).trans hci; have HE6 := Lib.hid ((Fr.of_grown (v' := .slice ps i cs) hg6 (fun k h => .inl h)).own HOE.out (row_row HOE.out HOS.out (by decide))); have hB6 : B ≤ w6.heap.size := Nat.le_trans hBs hb6.size; have HB6 := Lib.hid (HBE.out.trans hb6); clear hown6 hg6 hb6)
            | (refine wpList_appendS rfl _ _ 22 rfl B 2 25 (.agg #[.int .i64 0, .int .i64 0]) 16 Try.underlying22 info_ave rfl (by decide) (.slice pe i ce) i (aes (rhE Z i)).flatten rfl HE6.out #[.int .i64 K, .int .i64 ((i : Int) + 1)] rfl rfl (by intro u hu; simp at hu; rcases hu with rfl | rfl <;> rfl) (by unfold maxLen; omega) (by omega) hB6 ?_; intro g7 k7 w7 hown7 hg7 hb7; have HO7 := Lib.hid hown7; have HS7 := Lib.hid ((Fr.of_grown (v' := .slice pe i ce) hg7 (fun k h => .inl h)).own HO6.out (row_row HO6.out HE6.out (by decide))); have HB7 := Lib.hid (HB6.out.trans hb7); clear hown7 hg7 hb7)
            | fail)
          go_roundg k
          case measure => omega
          case rel =>
            refine ⟨i + 1, k6, k7, some ⟨g6, 0, none⟩, some ⟨g7, 0, none⟩, by go_num, by omega, rfl, rfl, ?_, ?_, HB7.out⟩
            · have h := HS7.out
              rw [rhS_succ, List.map_append, List.flatten_append, HK.out]
              exact h
            · have h := HO7.out
              rw [rhE_succ, HK.out]
              simpa [aes] using h
      · obtain rfl : i = m := by omega
        clear hbel
        have hszr : B ≤ wr.heap.size := by rw [← HB.out]; exact HBE.out.size
        have hen : ∀ k ∈ obl (.slice pe i ce), k < wr.heap.size := fun k hk => (own_lt HOE.out k hk).1
        have HEN := Lib.hid hen
        have HWB : Hid (w.heap.size ≤ B) := Lib.hid (by rw [← HB.out]; exact HBW.out.size)
        have HBR := Lib.hid (HBW.out.trans (HBE.out.mono (by rw [← HB.out]; exact HBW.out.size)))
        have HZR : Hid (∀ j, j < i → wr.cell? ⟨bx, j, none⟩ = some (.int .u64 (Z.getD j 0)) ∧ bx < B) := Lib.hid (fun j hj => by
          have h := HXC.out j hj
          have hl := World.block_lt_of_cell? w5 _ h
          rw [HB.out] at hl
          exact ⟨(HBE.out.cell (p := ⟨bx, j, none⟩) hl).trans h, hl⟩)
        have HAR : Hid (∀ j, j < M → wr.cell? ⟨ba, j, none⟩ = some (.int .u64 (A.getD j 0)) ∧ ba < B) := Lib.hid (fun j hj => by
          have h := HAC.out j hj
          have hl := World.block_lt_of_cell? w5 _ h
          rw [HB.out] at hl
          exact ⟨(HBE.out.cell (p := ⟨ba, j, none⟩) hl).trans h, hl⟩)
        clear hen HXC HAC HBE HB HBW
        go_wp2_with fail
        obtain ⟨wa, rfl⟩ : ∃ x, x = wr := ⟨_, rfl⟩
        go_loopg [10, 12, 15] n (fun k st ou idx wx => RhB Z i n B (.slice pe i ce) wa k st ou idx wx)
        case atStart => exact ⟨0, cs, 0, ps, none, rfl, by omega, rfl, rfl, by simpa [rhD] using HOS.out, World.ownsRow_nil _ _ _ _, HOE.out, Below.refl _ _⟩
        case round =>
          obtain ⟨j, cs2, cu, ps2, pu, rfl, hjk, rfl, rfl, hos, hou, hoe, hbel⟩ := hrel
          have HOS2 := Lib.hid hos
          have HOU := Lib.hid hou
          have HOE2 := Lib.hid hoe
          have HBE := Lib.hid hbel
          clear hos hou hoe HOS HOE
          by_cases hj : j < n
          · have hci := (HZR.out j (by omega)).1
            rw [← hbel.cell (p := ⟨bx, j, none⟩) (HZR.out j (by omega)).2] at hci
            obtain ⟨K, hK⟩ : ∃ K, Z.getD j 0 = K := ⟨_, rfl⟩
            have hKb := HAB.out j
            rw [HZA.out j (by omega), hK] at hKb
            rw [hK] at hci
            have HK := Lib.hid hK
            have hw2 : IntKind.i64.wrap K = K := by simp only [IntKind.wrap, IntKind.signed, IntKind.bits]; simp; omega
            have i1 : (j : Int) < (i : Int) := by omega
            have i2 : (0 : Int) ≤ (j : Int) := by omega
            have i3 : (j : Int) < (n : Int) := by omega
            have hBs : B ≤ wr.heap.size := Nat.le_trans hszr hbel.size
            have hBx : wa.heap.size ≤ wr.heap.size := hbel.size
            have hbxB : bx < B := (HZR.out j (by omega)).2
            clear hbel hK
            cases gk with
            | zero => omega
            | succ k =>
              go_wp2_with (at_builtin; first
                | (refine wpList_appendS rfl _ _ 43 rfl B 3 45 (.agg #[.int .i64 0, .int .u64 0, .int .u64 0]) 24 Try.underlying43 info_istep rfl (by decide) (.slice ps2 (i + j) cs2) (i + j) ((rhS Z i ++ rhD Z j).map stepRow).flatten rfl HOS2.out #[.int .i64 4, .int .u64 K, .int .u64 0] rfl rfl (by intro u hu; simp at hu; rcases hu with rfl | rfl | rfl <;> rfl) (by unfold maxLen; omega) (by omega) hBs ?_; intro g6 k6 w6 hown6 hg6 hb6; have HO6 := Lib.hid hown6; have hc6 := (hb6.cell (p := ⟨bx, j, none⟩) hbxB).trans hci; have HU6 := Lib.hid ((Fr.of_grown (v' := .slice ps2 (i + j) cs2) hg6 (fun k h => .inl h)).own HOU.out (row_row HOU.out HOS2.out (by decide))); have HE6 := Lib.hid ((Fr.of_grown (v' := .slice ps2 (i + j) cs2) hg6 (fun k h => .inl h)).own HOE2.out (row_row HOE2.out HOS2.out (by decide))); have hB6 : wa.heap.size ≤ w6.heap.size := Nat.le_trans hBx hb6.size; have HB6 := Lib.hid (HBE.out.trans hb6); clear hown6 hg6 hb6)
                | (refine wpList_appendS rfl _ _ 22 rfl wa.heap.size 2 25 (.agg #[.int .i64 0, .int .i64 0]) 16 Try.underlying22 info_ave rfl (by decide) (.slice pu j cu) j (aes (rhO Z j)).flatten rfl HU6.out #[.int .i64 K, .int .i64 0] rfl rfl (by intro u hu; simp at hu; rcases hu with rfl | rfl <;> rfl) (by unfold maxLen; omega) (by omega) hB6 ?_; intro g7 k7 w7 hown7 hg7 hb7; have HO7 := Lib.hid hown7; have HS7 := Lib.hid ((Fr.of_grown (v' := .slice pu j cu) hg7 (fun k h => .inl h)).own HO6.out (row_row HO6.out HU6.out (by decide))); have HE7 := Lib.hid ((Fr.of_grown (v' := .slice pu j cu) hg7 (fun k h => .inl h)).own HE6.out (row_sep HEN.out HU6.out)); have HB7 := Lib.hid (HB6.out.trans (hb7.mono hszr)); clear hown7 hg7 hb7)
                | fail)
              go_roundg k
              case measure => omega
              case rel =>
                refine ⟨j + 1, k6, k7, some ⟨g6, 0, none⟩, some ⟨g7, 0, none⟩, by go_num, by omega, rfl, rfl, ?_, ?_, HE7.out, HB7.out⟩
                · have h := HS7.out
                  rw [rhD_succ, ← List.append_assoc, List.map_append, List.flatten_append, HK.out]
                  exact h
                · have h := HO7.out
                  rw [rhO_succ, HK.out]
                  simpa [aes] using h
          · obtain rfl : j = n := by omega
            have hszb : B ≤ wr.heap.size := Nat.le_trans hszr hbel.size
            have hen : ∀ k ∈ obl (.slice pe i ce), k < wr.heap.size := fun k hk => (own_lt HOE2.out k hk).1
            have hou : ∀ k ∈ obl (.slice pu j cu), k < wr.heap.size := fun k hk => (own_lt HOU.out k hk).1
            have HEN2 := Lib.hid hen
            have HUN := Lib.hid hou
            have hal : B ≤ wa.heap.size := hszr
            have HOU2 := Lib.hid (own_base' HOU.out hal)
            have HBR2 := Lib.hid (HBR.out.trans (HBE.out.mono (Nat.le_trans (Nat.le_refl _) (by have := HBR.out.size; have := HWB.out; omega))))
            have HAR2 : Hid (∀ q, q < M → wr.cell? ⟨ba, q, none⟩ = some (.int .u64 (A.getD q 0)) ∧ ba < B) := Lib.hid (fun q hq => ⟨(HBE.out.cell (p := ⟨ba, q, none⟩) (HAR.out q hq).2).trans (HAR.out q hq).1, (HAR.out q hq).2⟩)
            clear hbel hen hou HBE HBR HAR HOU HEN HZR hal
            go_wp2_with fail
            obtain ⟨wb, rfl⟩ : ∃ x, x = wr := ⟨_, rfl⟩
            go_loopg [10, 13, 16] (M) (fun k st qu idx wx => RhC Z A i j (M) B (.slice pe i ce) (.slice pu j cu) wb k st qu idx wx)
            case atStart => exact ⟨0, cs2, 0, ps2, none, rfl, by omega, rfl, rfl, by simpa [rhAll, rhG] using HOS2.out, World.ownsRow_nil _ _ _ _, HOE2.out, HOU2.out, Below.refl _ _⟩
            case round =>
              obtain ⟨q, cs3, cq, ps3, pq, rfl, hqk, rfl, rfl, hos, hoq, hoe, hou, hbel⟩ := hrel
              have HOS3 := Lib.hid hos
              have HOQ := Lib.hid hoq
              have HOE3 := Lib.hid hoe
              have HOU3 := Lib.hid hou
              have HBE := Lib.hid hbel
              clear hos hoq hoe hou HOS2 HOU2 HOE2
              by_cases hq : q < M
              · have hci := (HAR2.out q hq).1
                rw [← hbel.cell (p := ⟨ba, q, none⟩) (HAR2.out q hq).2] at hci
                obtain ⟨K, hK⟩ : ∃ K, A.getD q 0 = K := ⟨_, rfl⟩
                have hKb := HAB.out q
                rw [hK] at hci hKb
                have HK := Lib.hid hK
                have hw2 : IntKind.i64.wrap K = K := by simp only [IntKind.wrap, IntKind.signed, IntKind.bits]; simp; omega
                have i1 : (q : Int) < (M : Int) := by omega
                have i2 : (0 : Int) ≤ (q : Int) := by omega
                have hBs : B ≤ wr.heap.size := Nat.le_trans hszb hbel.size
                have hBx : wb.heap.size ≤ wr.heap.size := hbel.size
                have hbxB : ba < B := (HAR2.out q hq).2
                clear hbel hK
                cases gk with
                | zero => omega
                | succ k =>
                  go_upto_region 23 with fail
                  go_region_law
                    (first
                      | (refine step_apRw (by rfl) (.tmp 104) (.tmp 115) 43 (by rfl) B 3 45 (.agg #[.int .i64 0, .int .u64 0, .int .u64 0]) 24 Try.underlying43 info_istep rfl (by decide) (.slice ps3 (i + j + 2 * q) cs3) (i + j + 2 * q) ((rhAll Z A i j q).map stepRow).flatten (by go_simp) ?_ (.slice (some ⟨wr.heap.size, 0, none⟩) 2 2) ((rhP A q).map stepRow) (by go_simp) ?_ ?_ ?_ ?_ ?_ ?_ ?_
                         focus ((repeat (first | with_reducible exact HOS3.out | with_reducible refine row_drew ?_ | with_reducible refine World.ownsRow.alloc ?_ _)); done)
                         focus ((repeat (first | with_reducible refine Rw.drew' ?_ | exact rwNew _ _ _ _ (rhP_three A q) (by rw [← HK.out]; rfl) 2 rfl (by decide))); done)
                         focus (exact rhP_three A q)
                         focus (exact rhP_one A q)
                         focus (unfold maxLen; simp only [rhP, List.map_cons, List.map_nil, List.length_cons, List.length_nil]; omega)
                         focus (simp only [rhP, List.map_cons, List.map_nil, List.length_cons, List.length_nil]; omega)
                         focus (refine Nat.le_trans hBs ?_; simp; done)
                         intro g6 m6 k6 w6 hown6 hg6 hb6
                         obtain ⟨e6, hx6⟩ := rhc_step HOS3.out HOQ.out HOE3.out HOU3.out (by (repeat (first | with_reducible exact Below.refl _ _ | with_reducible refine Below.drew ?_ | with_reducible exact (Below.refl _ _).alloc (Nat.le_refl _) _))) hown6 hg6
                         have HX6 := Lib.hid hx6
                         have HB6 := Lib.hid (HBE.out.trans (Below.trans (by (repeat (first | with_reducible exact Below.refl _ _ | with_reducible refine Below.drew ?_ | with_reducible exact (Below.refl _ _).alloc hBs _))) hb6))
                         have hb6' : Below B wr w6 := (Below.trans (by (repeat (first | with_reducible exact Below.refl _ _ | with_reducible refine Below.drew ?_ | with_reducible exact (Below.refl _ _).alloc hBs _))) hb6)
                         subst e6
                         clear hown6 hg6 hb6 hx6)
                      | fail)
                  all_goals
                    obtain ⟨hs6, hq6, he6, ho6⟩ := HX6.out
                    have HS6 := Lib.hid hs6
                    have HQ6 := Lib.hid hq6
                    have HE6 := Lib.hid he6
                    have HO6 := Lib.hid ho6
                    have hc6 : w6.cell? ⟨ba, q, none⟩ = some (.int .u64 K) := (hb6'.cell (p := ⟨ba, q, none⟩) hbxB).trans hci
                    have hB6 : wb.heap.size ≤ w6.heap.size := HB6.out.size
                    clear hs6 hq6 he6 ho6 hb6' HX6
                    go_wp2_with (at_builtin; first
                      | (refine wpList_appendS rfl _ _ 22 rfl wb.heap.size 2 25 (.agg #[.int .i64 0, .int .i64 0]) 16 Try.underlying22 info_ave rfl (by decide) (.slice pq q cq) q (aes (rhO A q)).flatten rfl HQ6.out #[.int .i64 K, .int .i64 0] rfl rfl (by intro u hu; simp at hu; rcases hu with rfl | rfl <;> rfl) (by unfold maxLen; omega) (by omega) hB6 ?_; intro g7 k7 w7 hown7 hg7 hb7; have HO7 := Lib.hid hown7; have HS7 := Lib.hid ((Fr.of_grown (v' := .slice pq q cq) hg7 (fun k h => .inl h)).own HS6.out (row_row HS6.out HQ6.out (by decide))); have HE7 := Lib.hid ((Fr.of_grown (v' := .slice pq q cq) hg7 (fun k h => .inl h)).own HE6.out (row_sep HEN2.out HQ6.out)); have HU7 := Lib.hid ((Fr.of_grown (v' := .slice pq q cq) hg7 (fun k h => .inl h)).own HO6.out (row_sep HUN.out HQ6.out)); have HB7 := Lib.hid (HB6.out.trans (hb7.mono hszb)); clear hown7 hg7 hb7)
                      | fail)
                    go_roundg k
                    case measure => omega
                    case rel =>
                      refine ⟨q + 1, k6, k7, g6, some ⟨g7, 0, none⟩, by go_num, by omega, rfl, rfl, HS7.out, ?_, HE7.out, HU7.out, HB7.out⟩
                      have h := HO7.out
                      rw [rhO_succ, HK.out]
                      simpa [aes] using h
              · obtain rfl : M = q := by omega
                have HBR3 := Lib.hid (HBR2.out.trans (HBE.out.mono (Nat.le_trans (Nat.le_refl _) HWB.out)))
                have HOA := Lib.hid (own_base' HOQ.out hszb)
                have hMp : 0 < M := by omega
                have hszq : B ≤ wr.heap.size := Nat.le_trans hszb hbel.size
                clear hbel HBE HBR2 HOQ HEN2 HUN HAR2
                go_upto_if 130 with fail
                obtain ⟨wv, rfl⟩ : ∃ x, x = wr := ⟨_, rfl⟩
                go_cut [17] from 130 to 135 (fun s17 wx => ∃ (gs cs : Nat), s17 = .slice (some ⟨gs, 0, none⟩) (rhL j) cs ∧ wx.ownsRow wv.heap.size 32 3 (.slice (some ⟨gs, 0, none⟩) (rhL j) cs) (rhL j) (rhR j (.slice pe i ce) (.slice pu j cu)).flatten ∧ Below wv.heap.size wv wx)
                case first =>
                  by_cases hj0 : j = 0
                  · have d4 : decide (0 < j) = false := by rw [decide_eq_false_iff_not]; omega
                    have hL : rhL j = 1 := if_pos hj0
                    have hR : rhR j (.slice pe i ce) (.slice pu j cu) = [[.int .i64 1, .int .i64 0, .slice pe i ce]] := if_pos hj0
                    have HLL := Lib.hid hL
                    have HRR := Lib.hid hR
                    rw [d4]
                    clear hL hR hj0 d4
                    go_wp2_with fail
                    go_meet
                    rw [HLL.out, HRR.out]
                    exact ⟨wv.heap.size, 1, rfl, own_lit wv _ _ 3 1 _ (Nat.le_refl _) rfl (by decide), (Below.refl _ _).alloc (Nat.le_refl _) _⟩
                  · have d4 : decide (0 < j) = true := by rw [decide_eq_true_iff]; omega
                    have hL : rhL j = 2 := if_neg hj0
                    have hR : rhR j (.slice pe i ce) (.slice pu j cu) = [[.int .i64 1, .int .i64 0, .slice pe i ce], [.int .i64 2, .int .i64 1, .slice pu j cu]] := if_neg hj0
                    have HLL := Lib.hid hL
                    have HRR := Lib.hid hR
                    rw [d4]
                    clear hL hR hj0 d4
                    go_wp2_with (at_builtin; refine wpList_appendS rfl _ _ 33 rfl wv.heap.size 3 32 (.agg #[.int .i64 0, .int .i64 0, .slice none 0 0]) 40 Try.underlying33 info_avstep rfl (by decide) (.slice (some ⟨wv.heap.size, 0, none⟩) 1 1) 1 [.int .i64 1, .int .i64 0, .slice pe i ce] rfl (own_lit wv _ _ 3 1 #[.int .i64 1, .int .i64 0, .slice pe i ce] (Nat.le_refl _) rfl (by decide)) #[.int .i64 2, .int .i64 1, .slice pu j cu] (by rw [World.size_alloc]; rfl) rfl (by intro u hu; simp at hu; rcases hu with rfl | rfl | rfl <;> rfl) (by decide) (by decide) (by simp) ?_; intro g7 k7 w7 hown7 hg7 hb7; have HO7 := Lib.hid hown7; have HB7 := Lib.hid (((Below.refl wv.heap.size wv).alloc (Nat.le_refl _) (.cells #[.int .i64 1, .int .i64 0, .slice pe i ce] 32)).trans hb7); clear hown7 hg7 hb7)
                    go_meet
                    rw [HLL.out, HRR.out]
                    exact ⟨g7, k7, rfl, HO7.out, HB7.out⟩
                case rest =>
                  obtain ⟨gs, csn, rfl, hos, hbs⟩ := hcut
                  have HSC := Lib.hid hos
                  have hL2 : rhL j ≤ 2 := by unfold rhL; split <;> omega
                  have hScr : (rhScr j (rhE Z i) (rhO Z j)).length = rhL j := by unfold rhScr rhL; split <;> rfl
                  have hstp := fun (wx : World) (hb : Below wv.heap.size wv wx) => rh_steps (n := j) (Rw.of_owns (aes_two _) (by decide) (own_below HOE3.out hb)) (Rw.of_owns (aes_two _) (by decide) (own_below HOU3.out hb)) (Rw.of_owns (aes_two _) (by decide) (own_below HOA.out hb))
                  obtain ⟨L, htw, U, σ, hU, hruns⟩ := rh_script HZN.out A i j M HZL.out.symm (by omega) (by omega) (by omega) hMp (by omega)
                  have hR3 := rhR_three j (.slice pe i ce) (.slice pu j cu)
                  have hRl := rhR_len j (.slice pe i ce) (.slice pu j cu)
                  obtain ⟨L0, hL0⟩ : ∃ L0, rhL j = L0 := ⟨_, rfl⟩
                  obtain ⟨R0, hR0⟩ : ∃ R0, rhR j (.slice pe i ce) (.slice pu j cu) = R0 := ⟨_, rfl⟩
                  obtain ⟨S0, hS0⟩ : ∃ S0, rhScr j (rhE Z i) (rhO Z j) = S0 := ⟨_, rfl⟩
                  rw [hL0, hR0] at HSC hRl
                  rw [hL0, hS0] at hScr hruns
                  rw [hL0] at hU hL2 ⊢
                  rw [hR0] at hR3
                  rw [hR0, hS0, hL0] at hstp
                  have HSTP := Lib.hid hstp
                  have HTW := Lib.hid htw
                  have HU := Lib.hid hU
                  have HRUNS := Lib.hid hruns
                  have HR3 := Lib.hid hR3
                  have HRL := Lib.hid hRl
                  have HSL := Lib.hid hScr
                  have HBS := Lib.hid hbs
                  have hsb := hbs.size
                  clear hos hbs hScr hstp htw hU hruns hR3 hRl hL0 hR0 hS0
                  go_wp2_with (at_builtin; refine wpList_appendS rfl _ _ 33 rfl wv.heap.size 3 32 (.agg #[.int .i64 0, .int .i64 0, .slice none 0 0]) 40 Try.underlying33 info_avstep rfl (by decide) (.slice (some ⟨gs, 0, none⟩) L0 csn) L0 R0.flatten rfl HSC.out #[.int .i64 3, .int .i64 (L0 : Int), .slice pq M cq] rfl rfl (by intro u hu; simp at hu; rcases hu with rfl | rfl | rfl <;> rfl) (by unfold maxLen; omega) (by omega) hsb ?_; intro g8 k8 w8 hown8 hg8 hb8; have HO8 := Lib.hid hown8; have HB8 := Lib.hid (HBS.out.trans hb8); clear hown8 hg8 hb8)
                  have hrw8 : Rw 3 w8 (.slice ps3 (i + j + 2 * M) cs3) ((rhAll Z A i j M).map stepRow) := Rw.of_owns (fun r hr => by obtain ⟨x, _, rfl⟩ := List.mem_map.1 hr; rfl) (by decide) (own_below HOS3.out HB8.out)
                  obtain ⟨F, hF⟩ := fihome_ex
                  refine (firun_any F hF 8 _ (rhAll Z A i j M) (i + j + 2 * M) w8 (by decide) hrw8 (rhAll_len Z A i j M) (by omega) (rh_ops Z A i j M) (fun t ht => by
                    refine Nat.le_trans (cnt_le3 _) ?_
                    rw [List.length_take, rhAll_len]; omega)).mono ?_
                  rintro e w9 ⟨v9, ans, rfl, hra, hal9, hans, hb9⟩
                  obtain ⟨pa, ca, rfl⟩ : ∃ p c, v9 = .slice p (i + j + 2 * M) c := by
                    obtain ⟨a, n, c, e, hl, _⟩ := hra
                    rw [List.length_map, hal9] at hl
                    subst hl
                    exact ⟨a, c, e⟩
                  have HRA := Lib.hid hra
                  have HAL9 := Lib.hid hal9
                  have HANS := Lib.hid hans
                  have hb89 : Below wv.heap.size wv w9 := HB8.out.trans (hb9.mono HB8.out.size)
                  have HB9 := Lib.hid hb89
                  have ho9 := own_below HO8.out hb9
                  have hs9 : S0.length = L0 := HSL.out
                  have hrl := HRL.out
                  have hrs : Rw 3 w9 (.slice (some ⟨g8, 0, none⟩) (L0 + 1) k8) (R0 ++ [[.int .i64 3, .int .i64 (L0 : Int), .slice pq M cq]]) := by
                    refine Rw.of_owns (e := 32) (B := wv.heap.size) (n := L0 + 1) (fun r hr => ?_) (by decide) ?_
                    · rcases List.mem_append.1 hr with h | h
                      · exact HR3.out r h
                      · rw [List.mem_singleton.1 h]; rfl
                    · rw [List.flatten_append]; exact ho9
                  have hav := avrun_any (S0 ++ [⟨3, L0, rhO A M⟩]) _ σ (.slice (some ⟨g8, 0, none⟩) (L0 + 1) k8) _ w9 hrs (HSTP.out w9 hb89) HRUNS.out (by simp [hs9]; omega) (fun _ => deletes_any) avsaid_any
                  have HAV := Lib.hid hav
                  have hBw9 : wv.heap.size ≤ w9.heap.size := hb89.size
                  clear hra hal9 hans hb9 hb89 ho9 hrs hav hrw8 hF HOS3 HOE3 HOU3 HOA HB8 HO8 HSC HSTP HRUNS HR3 HRL hrl
                  go_wp2_with fail
                  refine HAV.out.mono ?_
                  rintro e w10 ⟨qo, co, rows, rfl, ho10, h310, hl10, hsa10, hb10⟩
                  have hlen : (S0 ++ [(⟨3, L0, rhO A M⟩ : AStp)]).length = L0 + 1 := by simp [hs9]
                  rw [hlen] at ho10 hl10 ⊢
                  obtain ⟨row, hrow⟩ : ∃ row, rows[L0]? = some row := ⟨_, List.getElem?_eq_getElem (by omega)⟩
                  obtain ⟨q1, c1', q2, c2', hrw, hq1, hq2⟩ := hsa10.2 L0 row _ hrow (by rw [List.getElem?_append_right (by rw [HU.out]; exact Nat.le_refl _), HU.out, Nat.sub_self]; rfl)
                  dsimp only at hrw hq1 hq2
                  have hgl : (getOs L (rhO A M)).length = M := by rw [getOs_len, rhO_len]
                  have hLl : L.length = i - j := by rw [← HTW.out.len, List.length_drop, rhE_len]
                  rw [hgl] at hrw hq1 hq2
                  rw [hLl] at hrw
                  subst hrw
                  have hrr := Rw.of_owns h310 (by decide) ho10
                  obtain ⟨_, _, _, e1, -, -, -, hr1⟩ := hrr
                  injection e1 with e1 e2 e3
                  subst e1 e2 e3
                  obtain ⟨bo, oo, rfl, hc1⟩ := hr1 (by omega)
                  have y0 := hc1 L0 _ hrow 0 _ rfl
                  have y1 := hc1 L0 _ hrow 1 _ rfl
                  have y2 := hc1 L0 _ hrow 2 _ rfl
                  rw [Nat.add_zero] at y0
                  rw [← Nat.add_assoc] at y1 y2
                  have HQ1 := Lib.hid (Rw.of_owns (aes_two _) (by decide) hq1)
                  have HQ2 := Lib.hid (Sl.of_owns hq2)
                  have HRA10 := Lib.hid (HRA.out.below rfl hb10)
                  have HB10 := Lib.hid (HB9.out.trans (hb10.mono hBw9))
                  have hw3 : IntKind.i64.wrap (((L0 + 1 : Nat) : Int) - 1) = (L0 : Int) := by simp only [IntKind.wrap, IntKind.signed, IntKind.bits]; simp; omega
                  clear ho10 h310 hl10 hsa10 hb10 hrow hq1 hq2 hgl hLl hr1 hc1 hlen hs9 HAV HRA HB9 HSL HU
                  go_wp2_with fail
                  obtain ⟨_, _, _, e4, hl4, -, -, hr4⟩ := HRA10.out
                  injection e4 with e4 e5 e6
                  subst e4 e5 e6
                  obtain ⟨bq, oq, rfl, hc4⟩ := hr4 (by omega)
                  obtain ⟨_, _, _, e7, -, -, -, hr7⟩ := HQ1.out
                  injection e7 with e7 e8 e9
                  subst e7 e8 e9
                  obtain ⟨b7, o7, rfl, hc7⟩ := hr7 hMp
                  obtain ⟨_, _, _, e10, -, -, -, hr8⟩ := HQ2.out
                  injection e10 with e10 e11 e12
                  subst e10 e11 e12
                  obtain ⟨b8, o8, rfl, hc8⟩ := hr8 hMp
                  have HSAID : Hid (∀ t, t < M → RhAns w10 bq oq b7 o7 b8 o8 (i + j + 2 * t) t) := Lib.hid (fun t ht => by
                    obtain ⟨r1, r2, hr1, hr2, hx1, hx2, hx3⟩ := rh_said HZN.out A i j M (by rw [HZL.out]; exact Nat.le_refl _) (by omega) ans HAL9.out HANS.out t ht
                    have hg := rh_get HTW.out A M t ht
                    exact rh_ans_of hxl hr1 hr2 hx1 hx2 hx3 hg hc4 hc7 hc8)
                  clear hl4 hr4 hc4 hr7 hc7 hr8 hc8 HRA10 HQ1 HQ2 HANS HAL9 HTW y0 y1 y2
                  obtain ⟨bl, hbl⟩ : ∃ bl, w10.heap.size = bl := ⟨_, rfl⟩
                  obtain ⟨wl, hwl⟩ : ∃ wl, wl = w10.alloc (.cells #[.int .i64 ((i - j : Nat) : Int), .slice (some ⟨b7, o7, none⟩) M c1', .slice (some ⟨b8, o8, none⟩) M c2'] 36) := ⟨_, rfl⟩
                  have hkb := Blk.new w10 36 #[.int .i64 ((i - j : Nat) : Int), .slice (some ⟨b7, o7, none⟩) M c1', .slice (some ⟨b8, o8, none⟩) M c2']
                  have hbl10 : Below w10.heap.size w10 wl := by rw [hwl]; exact (Below.refl _ _).alloc (Nat.le_refl _) _
                  rw [hbl, ← hwl] at hkb
                  rw [hbl, ← hwl]
                  have HKB := Lib.hid hkb
                  have HBL := Lib.hid hbl10
                  clear hbl hwl hkb hbl10
                  go_loopg [21, 22, 23] M (fun k idx s22 s23 wr => ∃ t : Nat, idx = .int .i64 (t : Int) ∧ t + k = M ∧ Below wl.heap.size wl wr)
                  case atStart => exact ⟨0, rfl, by omega, Below.refl _ _⟩
                  case round =>
                    obtain ⟨t, rfl, htk, hbel⟩ := hrel
                    have HBE := Lib.hid hbel
                    by_cases ht : t < M
                    · obtain ⟨vv, bb, xn, kk, hv0, hv1, x0, x1, x2, x3, s1, h1⟩ := HSAID.out t ht
                      have X0 := (HBE.out.cell (below_lt HBL.out x0)).trans ((HBL.out.cell (World.block_lt_of_cell? w10 _ x0)).trans x0)
                      have X1 := (HBE.out.cell (below_lt HBL.out x1)).trans ((HBL.out.cell (World.block_lt_of_cell? w10 _ x1)).trans x1)
                      have X2 := (HBE.out.cell (below_lt HBL.out x2)).trans ((HBL.out.cell (World.block_lt_of_cell? w10 _ x2)).trans x2)
                      have X3 := (HBE.out.cell (below_lt HBL.out x3)).trans ((HBL.out.cell (World.block_lt_of_cell? w10 _ x3)).trans x3)
                      have S1 := (HBE.out.cell (below_lt HBL.out s1)).trans ((HBL.out.cell (World.block_lt_of_cell? w10 _ s1)).trans s1)
                      have H1 := (HBE.out.cell (below_lt HBL.out h1)).trans ((HBL.out.cell (World.block_lt_of_cell? w10 _ h1)).trans h1)
                      have k1 := (HKB.out.next hbel).cell 1 rfl
                      have k2 := (HKB.out.next hbel).cell 2 rfl
                      have i1 : (t : Int) < (M : Int) := by omega
                      have i2 : (0 : Int) ≤ (t : Int) := by omega
                      clear hbel x0 x1 x2 x3 s1 h1
                      cases gk with
                      | zero => omega
                      | succ k =>
                        have hbq : bq < wr.heap.size := World.block_lt_of_cell? wr _ X0
                        have hbq2 : bq < wr.heap.size + 1 := by omega
                        have p1 : (i : Int) + (j : Int) + 2 * (t : Int) = ((i + j + 2 * t : Nat) : Int) := by omega
                        obtain ⟨N, hN⟩ : ∃ N, i + j + 2 * t = N := ⟨_, rfl⟩
                        rw [hN] at p1 X0 X1 X2 X3
                        have p2 : N + 1 < i + j + 2 * M := by omega
                        have p3 : (N : Int) < ((i + j + 2 * M : Nat) : Int) := by omega
                        have p4 : (N : Int) + 1 < ((i + j + 2 * M : Nat) : Int) := by omega
                        have p5 : (0 : Int) ≤ (N : Int) := by omega
                        have p6 : (N : Int) < (i : Int) + (j : Int) + 2 * (M : Int) := by omega
                        have p7 : (N : Int) + 1 < (i : Int) + (j : Int) + 2 * (M : Int) := by omega
                        have p8 : N < i + j + 2 * M := by omega
                        clear hN
                        go_upto_region 38 with fail
                        go_cut [22, 23] from 185 to 205 (fun s22 s23 wx => ∃ g1 g2 : Nat, s22 = .pointer (some ⟨g1, 0, none⟩) ∧ s23 = .pointer (some ⟨g2, 0, none⟩) ∧ wx.cell? ⟨g1, 0, none⟩ = some (.int .u64 vv) ∧ wx.cell? ⟨g1, 1, none⟩ = some (.bool bb) ∧ wx.cell? ⟨g2, 1, none⟩ = some (.bool bb) ∧ Below wr.heap.size wr wx)
                        case first =>
                          go_big_region
                          all_goals (try go_wp2_with fail)
                          · go_meet
                            obtain ⟨q1, q2, q3⟩ := rh_boxes wr #[.int .u64 vv, .bool bb] #[.int .u64 xn, .bool bb] 49
                            exact ⟨_, _, rfl, rfl, q1.cell 0 rfl, q1.cell 1 rfl, q2.cell 1 rfl, q3⟩
                          · go_meet
                            obtain ⟨q1, q2, q3⟩ := rh_boxes wr #[.int .u64 xn, .bool bb] #[.int .u64 vv, .bool bb] 49
                            exact ⟨_, _, rfl, rfl, q2.cell 0 rfl, q2.cell 1 rfl, q1.cell 1 rfl, q3⟩
                        case rest =>
                          obtain ⟨g1, g2, rfl, rfl, y0, y1, y2, hb9⟩ := hcut
                          have K1 := (hb9.cell (World.block_lt_of_cell? wr _ k1)).trans k1
                          have K2 := (hb9.cell (World.block_lt_of_cell? wr _ k2)).trans k2
                          have Z1 := (hb9.cell (World.block_lt_of_cell? wr _ S1)).trans S1
                          have Z2 := (hb9.cell (World.block_lt_of_cell? wr _ H1)).trans H1
                          have hvw : IntKind.u64.wrap vv = vv := by simp only [IntKind.wrap, IntKind.signed, IntKind.bits]; simp; omega
                          have hsz9 : wl.heap.size ≤ wr.heap.size := HBE.out.size
                          have HB9 := Lib.hid (HBE.out.trans (hb9.mono hsz9))
                          clear X0 X1 X2 X3 S1 H1 k1 k2 hb9 hbq hbq2 p1 p2 p3 p4 p5 p6 p7 p8
                          cases bb with
                          | true =>
                            go_wp2_with fail
                            go_quiet (fail)
                            go_wp2_with fail
                            go_roundg k
                            case measure => omega
                            case rel => exact ⟨t + 1, by go_num, by omega, HB9.out.trans ((below_drewN (Below.refl _ _) _).mono HB9.out.size)⟩
                          | false =>
                            go_wp2_with fail
                            go_quiet (fail)
                            go_wp2_with fail
                            go_roundg k
                            case measure => omega
                            case rel => exact ⟨t + 1, by go_num, by omega, HB9.out.trans ((below_drewN (Below.refl _ _) _).mono HB9.out.size)⟩
                    · obtain rfl : M = t := by omega
                      have k0 := (HKB.out.next hbel).cell 0 rfl
                      clear hbel
                      have hend : (((i - j : Nat) : Int) == (i : Int) - (j : Int)) = true := by rw [beq_iff_eq]; omega
                      go_wp2_with fail
                      go_ret
                      exact ⟨rfl, HBR3.out.trans ((HB10.out.trans (HBL.out.mono HB10.out.size)).trans (HBE.out.mono (HB10.out.trans (HBL.out.mono HB10.out.size)).size) |>.mono (by have := HBR3.out.size; omega))⟩

theorem law_roadhash_i (v0 v1 : Value) (a2 : Int) (w : World) (w0 : IsInts .u16 w v0) (w1 : IsInts .u16 w v1) (h2 : (Lit.int .u8 a2).wf = true) :
    Calls Try.prog 4 #[v0, v1, .int .u8 a2] w fun e w' => e = .returned (.bool true) ∧ Below w.heap.size w w' := by
  have hb : 0 ≤ a2 ∧ a2 < 256 := by
    simp [Lit.wf, IntKind.min, IntKind.max, IntKind.signed, IntKind.bits] at h2
    omega
  obtain ⟨g, hg⟩ : ∃ g : Nat, a2 = (g : Int) := ⟨a2.toNat, by omega⟩
  exact law_roadhash v0 v1 _ g w w0 w1 (by rw [hg]) (by omega)
end Go.Proofs.Ytidekgmpbcnfmaa
