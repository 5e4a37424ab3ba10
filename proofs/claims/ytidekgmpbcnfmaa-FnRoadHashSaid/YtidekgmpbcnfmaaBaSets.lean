/- Walks of the references for sets of bits: where a bit stands, whether it is there, putting and dropping it, comparing. -/
import Derived.Test.YtidekgmpbcnfmaaRows
import Derived.Test.YtidekgmpbcnfmaaSl
import Derived.Test.YtidekgmpbcnfmaaMem
import Derived.Test.YtidekgmpbcnfmaaStep
import Derived.Test.YtidekgmpbcnfmaaBaMath4
import Derived.WalkSpells
import Derived.WalkLawsBesides
import Derived.Deep.LoopGhost
import Derived.Deep.RegionLaw
import Derived.BigQuiet
import Derived.Deep.QuietTactic
import Derived.IntWalk
namespace Go.Proofs.Ytidekgmpbcnfmaa
set_option linter.unusedVariables false
open Go.RowKit Bam

theorem info_u64 : (Try.prog.info? 42).map (fun i => (i.zero, i.size, i.bytes)) = some (some (.int .u64 0), 1, 8) := by kernel_rfl

def u64s (l : List Nat) : List Value := l.map fun (x : Nat) => Value.int .u64 (x : Int)
theorem u64s_len (l : List Nat) : (u64s l).length = l.length := by simp [u64s]
theorem u64s_at (l : List Nat) (i : Nat) (h : i < l.length) : (u64s l)[i]? = some (.int .u64 ((l.getD i 0 : Nat) : Int)) := by
  simp [u64s, List.getElem?_eq_getElem h]
theorem u64s_append (l m : List Nat) : u64s (l ++ m) = u64s l ++ u64s m := by simp [u64s]
theorem u64s_one (l : List Nat) : ∀ u ∈ u64s l, u.oneCell' = true := by
  intro u hu
  obtain ⟨x, _, rfl⟩ := List.mem_map.1 hu
  rfl

/-- v is a slice of the run's own, of elements of type e, that holds the numbers S -/
def Ue (e : TypeId) (w : World) (v : Value) (S : List Nat) : Prop := w.ownsRow 0 e 1 v S.length (u64s S)
theorem Ue.nil (e : TypeId) (w : World) : Ue e w (.slice none 0 0) [] := World.ownsRow_nil _ _ _ _
theorem Ue.of {e : TypeId} {w : World} {B : Nat} {v : Value} {n : Nat} {S : List Nat} (h : w.ownsRow B e 1 v n (u64s S)) : Ue e w v S := by
  have hl := h.1
  rw [u64s_len, Nat.mul_one] at hl
  subst hl
  refine ⟨h.1, ?_⟩
  rcases h.2 with h0 | ⟨g, cap, cur, e, hbg, r⟩
  · exact .inl h0
  · exact .inr ⟨g, cap, cur, e, Nat.zero_le _, r⟩
theorem own_below {w w' : World} {B0 : Nat} {e : TypeId} {v : Value} {n : Nat} {xs : List Value} {sz : Nat} (h : w.ownsRow B0 e sz v n xs) (hb : Below w.heap.size w w') : w'.ownsRow B0 e sz v n xs := by
  refine ⟨h.1, ?_⟩
  rcases h.2 with h0 | ⟨g, cap, cur, e, hbg, hg, r⟩
  · exact .inl h0
  · exact .inr ⟨g, cap, cur, e, hbg, (hb.block g (Array.getElem?_eq_some_iff.1 hg).1).trans hg, r⟩
theorem Ue.below {e : TypeId} {w w' : World} {v : Value} {S : List Nat} {B : Nat} (h : Ue e w v S) (hb : Below B w w') (hB : w.heap.size = B) : Ue e w' v S := own_below h (hB ▸ hb)
theorem Ue.sl {e : TypeId} {w : World} {v : Value} {S : List Nat} (h : Ue e w v S) : Sl w v (u64s S) := Sl.of_owns h
theorem Ue.cases {e : TypeId} {w : World} {v : Value} {S : List Nat} (h : Ue e w v S) : (v = .slice none 0 0 ∧ S = []) ∨ ∃ g cap, v = .slice (some ⟨g, 0, none⟩) S.length cap ∧ g < w.heap.size ∧ S.length ≤ cap ∧ cap ≤ maxLen ∧ ∀ i, i < S.length → w.cell? ⟨g, i, none⟩ = some (.int .u64 ((S.getD i 0 : Nat) : Int)) := by
  rcases h.2 with ⟨e, e2⟩ | ⟨g, cap, cur, e, _, hg, h1, h2, h3, h4⟩
  · exact .inl ⟨e, List.eq_nil_of_length_eq_zero e2⟩
  · subst e
    refine .inr ⟨g, cap, rfl, (Array.getElem?_eq_some_iff.1 hg).1, h1, h2, fun i hi => ?_⟩
    have := World.ownsRow.cells (g := g) h rfl i _ (u64s_at S i hi)
    rw [addr_add, Nat.zero_add] at this
    exact this
theorem Ue.shape {e : TypeId} {w : World} {v : Value} {S : List Nat} (h : Ue e w v S) : ∃ a cap, v = .slice a S.length cap ∧ (0 < S.length → ∃ g, a = some ⟨g, 0, none⟩ ∧ ∀ i, i < S.length → w.cell? ⟨g, i, none⟩ = some (.int .u64 ((S.getD i 0 : Nat) : Int))) := by
  rcases h.cases with ⟨rfl, rfl⟩ | ⟨g, cap, rfl, _, _, _, h⟩
  · exact ⟨none, 0, rfl, fun h => absurd h (by simp)⟩
  · exact ⟨_, cap, rfl, fun _ => ⟨g, rfl, h⟩⟩
/-- the same, of elements of type uint64 -/
abbrev Us (w : World) (v : Value) (S : List Nat) : Prop := Ue 42 w v S
theorem Us.nil (w : World) : Us w (.slice none 0 0) [] := World.ownsRow_nil _ _ _ _
theorem Us.of {w : World} {B : Nat} {v : Value} {n : Nat} {S : List Nat} (h : w.ownsRow B 42 1 v n (u64s S)) : Us w v S := Ue.of h

theorem sAt_of {S : List Nat} {k n : Nat} (hn : n ≤ S.length) (h1 : ∀ i, i < n → S.getD i 0 < k) (h2 : n < S.length → ¬ S.getD n 0 < k) : sAt S k = n := by
  induction S generalizing n with
  | nil => have : n = 0 := by simpa using hn
           subst this; rfl
  | cons x S ih =>
    rw [sAt_cons]
    cases n with
    | zero => rw [if_neg]; simpa using h2 (by simp)
    | succ n =>
      have h0 := h1 0 (by omega)
      simp only [List.getD_cons_zero] at h0
      rw [if_pos h0, ih (by simpa using hn) (fun i hi => by have := h1 (i + 1) (by omega); simpa using this) (fun hlt => by have := h2 (by simpa using hlt); simpa using this)]

def AtRel (S : List Nat) (k0 : Nat) (w : World) (k : Nat) (n : Value) (wr : World) : Prop :=
  ∃ i : Nat, n = .int .i64 (i : Int) ∧ i + k = S.length ∧ (∀ j, j < i → S.getD j 0 < k0) ∧ wr = w

set_option maxHeartbeats 400000 in
theorem at_any (v : Value) (S : List Nat) (k : Nat) (w : World) (hv : Us w v S) (hn : S.length ≤ 1000000) :
    Calls Try.prog 31 #[v, .int .u64 (k : Int)] w fun e w' => e = .returned (.int .i64 (sAt S k : Nat)) ∧ w = w' := by
  obtain ⟨a, cap, rfl, hr⟩ := hv.shape
  obtain ⟨n, hN⟩ : ∃ n, n = S.length := ⟨_, rfl⟩
  have HN := Lib.hid hN
  rw [← hN] at hr hn ⊢
  clear hv hN
  go_enter Try.func31, Try.ntmps31
  go_wp2_with fail
  go_loopg [5] n (fun k' n wr => AtRel S k w k' n wr)
  case atStart => exact ⟨0, rfl, by rw [HN.out]; omega, fun j hj => absurd hj (Nat.not_lt_zero _), rfl⟩
  case round =>
    obtain ⟨i, rfl, hik, hlt, rfl⟩ := hrel
    rw [← HN.out] at hik
    have HL := Lib.hid hlt
    clear hlt
    by_cases hi : i < n
    · obtain ⟨g, rfl, hc⟩ := hr (by omega)
      have hci := hc i (by omega)
      obtain ⟨X, hX⟩ : ∃ X, S.getD i 0 = X := ⟨_, rfl⟩
      rw [hX] at hci
      have HX := Lib.hid hX
      clear hc hX hr
      cases gk with
      | zero => omega
      | succ k' =>
        by_cases c : X < k
        · have c2 : (X : Int) < (k : Int) := by omega
          go_wp2_with fail
          go_roundg k'
          case measure => omega
          case rel => exact ⟨i + 1, by go_num, by rw [← HN.out]; omega, fun j hj => by
                        by_cases e : j = i
                        · subst e; rw [HX.out]; exact c
                        · exact HL.out j (by omega), rfl⟩
        · have c2 : ¬ (X : Int) < (k : Int) := by omega
          go_wp2_with fail
          go_ret
          exact ⟨ret_int (by rw [sAt_of (n := i) (by rw [← HN.out]; omega) HL.out (fun _ => by rw [HX.out]; exact c)]), rfl⟩
    · obtain rfl : i = n := by omega
      clear hr
      go_wp2_with fail
      go_ret
      exact ⟨ret_int (by rw [sAt_of (n := i) (by rw [← HN.out]; omega) HL.out (fun h => by rw [← HN.out] at h; omega)]), rfl⟩

theorem sHas_of (S : List Nat) (k : Nat) : sHas S k = (decide (sAt S k < S.length) && decide (S.getD (sAt S k) 0 = k)) := by
  unfold sHas
  by_cases h : sAt S k < S.length
  · simp [h, List.getD_eq_getElem?_getD]
  · simp [h, List.getElem?_eq_none (show S.length ≤ sAt S k from by omega)]

set_option maxHeartbeats 400000 in
theorem has_any (v : Value) (S : List Nat) (k : Nat) (w : World) (hv : Us w v S) (hn : S.length ≤ 1000000) :
    Calls Try.prog 16 #[v, .int .u64 (k : Int)] w fun e w' => e = .returned (.bool (sHas S k)) ∧ w = w' := by
  have hat := fun w' h => at_any v S k w' h hn
  obtain ⟨a, cap, rfl, hr⟩ := hv.shape
  have HV := Lib.hid hv
  have HA := Lib.hid hat
  rw [sHas_of]
  have hle := sAt_le S k
  generalize sAt S k = m at *
  obtain ⟨n, hN⟩ : ∃ n, n = S.length := ⟨_, rfl⟩
  have HN := Lib.hid hN
  rw [← hN] at hr hn hle HV HA ⊢
  clear hv hat hN
  by_cases h1 : m < n
  · obtain ⟨g, rfl, hc⟩ := hr (by omega)
    have hcm := hc m h1
    obtain ⟨X, hX⟩ : ∃ X, S.getD m 0 = X := ⟨_, rfl⟩
    rw [hX] at hcm ⊢
    clear hc hX hr
    by_cases h2 : X = k
    · subst h2
      go_enter Try.func16, Try.ntmps16
      go_wp2_with fail
      refine (HA.out _ HV.out).mono ?_
      rintro e w' ⟨rfl, rfl⟩
      go_wp2_with fail
      go_ret
      exact ⟨ret_bool (by simp [h1]), rfl⟩
    · have h3 : ((X : Int) == (k : Int)) = false := by simp; omega
      go_enter Try.func16, Try.ntmps16
      go_wp2_with fail
      refine (HA.out _ HV.out).mono ?_
      rintro e w' ⟨rfl, rfl⟩
      go_wp2_with fail
      go_ret
      exact ⟨ret_bool (by simp [h1, h2]), rfl⟩
  · obtain rfl : m = n := by omega
    clear hr
    go_enter Try.func16, Try.ntmps16
    go_wp2_with fail
    refine (HA.out _ HV.out).mono ?_
    rintro e w' ⟨rfl, rfl⟩
    go_wp2_with fail
    go_ret
    exact ⟨ret_bool (by simp), rfl⟩

theorem _root_.Go.Proofs.Ytidekgmpbcnfmaa.Sl.later {w w' : World} {v : Value} {vs : List Value} (h : Sl w v vs) (hb : Below w.heap.size w w') : Sl w' v vs := h.below rfl hb
theorem own_empty (w : World) (B : Nat) (e : TypeId) (hB : B ≤ w.heap.size) : (w.alloc (.cells #[] e)).ownsRow B e 1 (.slice (some ⟨w.heap.size, 0, none⟩) 0 0) 0 [] :=
  ⟨rfl, .inr ⟨w.heap.size, 0, #[], rfl, hB, heap_alloc_new w _, Nat.le_refl _, Nat.zero_le _, rfl, rfl⟩⟩
/-- a part of such a slice -/
theorem Ue.part {e : TypeId} {w : World} {v : Value} {S : List Nat} (h : Ue e w v S) {a : Option Addr} {n lo hi cap' : Nat} (h1 : lo ≤ hi) (h2 : hi ≤ S.length) (hn : n = hi - lo) (ha : ∀ g cap, v = .slice (some ⟨g, 0, none⟩) S.length cap → lo < hi → a = some ⟨g, lo, none⟩) (hc : n ≤ cap') (hm : cap' ≤ maxLen) :
    Sl w (.slice a n cap') (u64s ((S.drop lo).take (hi - lo))) := by
  refine ⟨a, n, cap', rfl, by rw [u64s_len, List.length_take, List.length_drop]; omega, hc, hm, fun h0 => ?_⟩
  rcases h.cases with ⟨rfl, rfl⟩ | ⟨g, cap, rfl, _, _, _, hcell⟩
  · simp at h2; omega
  · refine ⟨g, lo, ha g cap rfl (by omega), fun i u hu => ?_⟩
    have hi2 := (List.getElem?_eq_some_iff.1 hu).1
    rw [u64s_len, List.length_take, List.length_drop] at hi2
    rw [hcell (lo + i) (by omega)]
    rw [u64s_at _ _ (by rw [List.length_take, List.length_drop]; omega)] at hu
    rw [← hu]
    congr 3
    simp [List.getD_eq_getElem?_getD, List.getElem?_take, List.getElem?_drop, show i < hi - lo from by omega]

set_option maxHeartbeats 1000000 in
theorem put_any (v : Value) (S : List Nat) (k : Nat) (w : World) (hv : Us w v S) (hn : S.length ≤ 100000) :
    Calls Try.prog 17 #[v, .int .u64 (k : Int)] w fun e w' => ∃ v', e = .returned v' ∧ Us w' v' (sPut S k) ∧ Below w.heap.size w w' := by
  have hat := fun w' h => at_any v S k w' h (by omega)
  have hhas := fun w' h => has_any v S k w' h (by omega)
  unfold sPut
  have HV := Lib.hid hv
  have HA := Lib.hid hat
  have HH := Lib.hid hhas
  have hle := sAt_le S k
  generalize sAt S k = m at *
  have hcs := hv.cases
  clear hv hat hhas
  cases hb : sHas S k with
  | true =>
    rw [hb] at HH
    obtain ⟨a, cap, rfl, _⟩ := HV.out.shape
    clear hcs hb
    go_enter Try.func17, Try.ntmps17
    go_wp2_with fail
    refine (HH.out _ HV.out).mono ?_
    rintro e w' ⟨rfl, rfl⟩
    go_wp2_with fail
    go_ret
    exact ⟨_, rfl, HV.out, Below.refl _ _⟩
  | false =>
    rw [hb] at HH
    rw [if_neg (by simp)]
    clear hb
    rcases hcs with ⟨rfl, rfl⟩ | ⟨g, cap, rfl, hg, hc1, hc2, _⟩
    · obtain rfl : m = 0 := by simpa using hle
      go_enter Try.func17, Try.ntmps17
      go_wp2_with fail
      refine (HH.out _ HV.out).mono ?_
      rintro e w' ⟨rfl, rfl⟩
      go_wp2_with fail
      refine (HA.out _ HV.out).mono ?_
      rintro e w' ⟨rfl, rfl⟩
      go_wp2_with (at_builtin; refine wpList_appendSl rfl _ _ 40 40 rfl w.heap.size 42 42 (.int .u64 0) 8 Try.underlying40 Try.underlying40 info_u64 rfl _ 0 [] rfl (own_empty w _ _ (Nat.le_refl _)) _ [] rfl (Sl.nil _) (fun _ h => by simp at h) (by simp) (by simp) (by simp) ?_; intro p1 m1 cap1 w1 hown1 hg1 hb1)
      have OW := Lib.hid hown1
      have HB1 := Lib.hid (((Below.refl w.heap.size w).alloc (Nat.le_refl _) (.cells #[] 42)).trans hb1)
      clear hown1 hg1 hb1
      go_region_law
        (first
          | (refine step_apSl (by rfl) (.tmp 19) (.tmp 21) 40 40 (by rfl) w.heap.size 42 42 (.int .u64 0) 8 Try.underlying40 Try.underlying40 info_u64 rfl (.slice p1 m1 cap1) (0 + ([] : List Value).length) ([] ++ ([] : List Value)) (by go_simp) ?_ (.slice (some ⟨w1.heap.size, 0, none⟩) 1 1) [.int .u64 (k : Int)] (by go_simp) ?_ ?_ ?_ ?_ ?_ ?_
             focus (first | exact OW.out.alloc _ | exact row_drew (OW.out.alloc _) | exact row_drew (row_drew (OW.out.alloc _)); done)
             focus (first | exact sl_new _ _ _ | exact sl_newD _ _ _ | exact (sl_newD _ _ _).later ((Below.refl _ _).drew); done)
             focus (exact fun u hu => by rw [List.mem_singleton.1 hu]; rfl; done)
             focus ((try unfold maxLen); simp only [List.length_cons, List.length_nil]; omega; done)
             focus (simp only [List.length_cons, List.length_nil]; omega; done)
             focus (refine Nat.le_trans HB1.out.size ?_; simp; done)
             intro p9 m9 c9 w9 hown9 hg9 hb9
             have O9 := Lib.hid hown9
             have B9 : Hid (Below w.heap.size w w9) := Lib.hid (HB1.out.trans (Below.trans (by (repeat (first | with_reducible exact Below.refl _ _ | with_reducible refine Below.drew ?_ | with_reducible exact (Below.refl _ _).alloc HB1.out.size _))) hb9))
             clear hown9 hg9 hb9)
          | (refine step_apSl (by rfl) (.tmp 22) (.tmp 25) 40 40 (by rfl) w.heap.size 42 42 (.int .u64 0) 8 Try.underlying40 Try.underlying40 info_u64 rfl (.slice p9 m9 c9) (0 + ([] : List Value).length + 1) ([] ++ ([] : List Value) ++ [.int .u64 (k : Int)]) (by go_simp) ?_ (.slice none 0 0) [] (by go_simp) ?_ ?_ ?_ ?_ ?_ ?_
             focus (first | exact O9.out | exact row_drew O9.out; done)
             focus (first | exact Sl.nil _ | exact Sl.nil _; done)
             focus (exact fun u hu => by simp at hu; done)
             focus ((try unfold maxLen); simp only [List.length_nil]; omega; done)
             focus (simp only [List.length_nil]; omega; done)
             focus (exact Nat.le_trans B9.out.size (by simp); done)
             intro p8 m8 c8 w8 hown8 hg8 hb8
             have O8 := Lib.hid hown8
             have B8 : Hid (Below w.heap.size w w8) := Lib.hid (B9.out.trans (Below.trans (by (repeat (first | with_reducible exact Below.refl _ _ | with_reducible refine Below.drew ?_))) hb8))
             clear hown8 hg8 hb8)
          | fail)
      all_goals
        go_wp2_with fail
        go_ret
        exact ⟨.slice p8 m8 c8, rfl, Us.of (S := [k]) (O8.out), B8.out⟩
    · obtain ⟨n, hN⟩ : ∃ n, n = S.length := ⟨_, rfl⟩
      have HN := Lib.hid hN
      rw [← hN] at hle hc1 hn HH HA HV ⊢
      clear hN
      have hmc : m ≤ cap := by omega
      have hmc2 : (m : Int) ≤ (cap : Int) := by omega
      go_enter Try.func17, Try.ntmps17
      go_wp2_with fail
      refine (HH.out _ HV.out).mono ?_
      rintro e w' ⟨rfl, rfl⟩
      go_wp2_with fail
      refine (HA.out _ HV.out).mono ?_
      rintro e w' ⟨rfl, rfl⟩
      have hsl1 := HV.out.part (a := some ⟨g, 0, none⟩) (n := m) (lo := 0) (hi := m) (cap' := cap) (Nat.zero_le _) (by rw [← HN.out]; exact hle) (by omega) (fun g' cap' e _ => by injection e) hmc hc2
      have hlm : (u64s (S.take m)).length = m := by rw [u64s_len, List.length_take, ← HN.out]; omega
      have hlm2 : (S.drop 0).take (m - 0) = S.take m := by rw [List.drop_zero, Nat.sub_zero]
      rw [hlm2] at hsl1
      have HL1 := Lib.hid hsl1
      have HM := Lib.hid hlm
      have hnS : S.length = n := HN.out.symm
      have HNS := Lib.hid hnS
      clear hsl1 hlm hlm2 hnS
      go_wp2_with (at_builtin; refine wpList_appendSl rfl _ _ 40 40 rfl w.heap.size 42 42 (.int .u64 0) 8 Try.underlying40 Try.underlying40 info_u64 rfl _ 0 [] rfl (own_empty w _ _ (Nat.le_refl _)) _ (u64s (S.take m)) rfl (HL1.out.later ((Below.refl _ _).alloc (Nat.le_refl _) _)) (u64s_one _) (by rw [HM.out]; unfold maxLen; omega) (by rw [HM.out]; omega) (by simp) ?_; intro p1 m1 cap1 w1 hown1 hg1 hb1)
      have OW := Lib.hid hown1
      have HB1 := Lib.hid (((Below.refl w.heap.size w).alloc (Nat.le_refl _) (.cells #[] 42)).trans hb1)
      clear hown1 hg1 hb1
      obtain ⟨a2, hif⟩ : ∃ a2, (if cap = m then some (⟨g, 0, none⟩ : Addr) else some ⟨g, m, none⟩) = a2 := ⟨_, rfl⟩
      have hsl2 := HV.out.part (a := a2) (n := n - m) (lo := m) (hi := n) (cap' := cap - m) hle (by rw [HNS.out]; exact Nat.le_refl _) rfl (fun g' cap' e h => by injection e with e1 e2 e3; injection e1 with e1; injection e1 with e1; rw [← hif, if_neg (by omega), e1]) (by omega) (by omega)
      have hl2 : (S.drop m).take (n - m) = S.drop m := List.take_of_length_le (by rw [List.length_drop, HNS.out]; exact Nat.le_refl _)
      rw [hl2] at hsl2
      have TL : Hid (∀ w', Below w.heap.size w w' → Sl w' (.slice a2 (n - m) (cap - m)) (u64s (S.drop m))) := Lib.hid (fun w' h => hsl2.later h)
      have hm0 : (0 : Int) ≤ (m : Int) := by omega
      have hmn : (m : Int) ≤ (n : Int) := by omega
      have hcm : (n : Int) ≤ (cap : Int) := by omega
      clear hsl2 hl2
      go_region_law
        (first
          | (refine step_apSl (by rfl) (.tmp 19) (.tmp 21) 40 40 (by rfl) w.heap.size 42 42 (.int .u64 0) 8 Try.underlying40 Try.underlying40 info_u64 rfl (.slice p1 m1 cap1) (0 + (u64s (S.take m)).length) ([] ++ u64s (S.take m)) (by go_simp) ?_ (.slice (some ⟨w1.heap.size, 0, none⟩) 1 1) [.int .u64 (k : Int)] (by go_simp) ?_ ?_ ?_ ?_ ?_ ?_
             focus (first | exact OW.out.alloc _ | exact row_drew (OW.out.alloc _) | exact row_drew (row_drew (OW.out.alloc _)); done)
             focus (first | exact sl_new _ _ _ | exact sl_newD _ _ _ | exact (sl_newD _ _ _).later ((Below.refl _ _).drew); done)
             focus (exact fun u hu => by rw [List.mem_singleton.1 hu]; rfl; done)
             focus ((try unfold maxLen); rw [HM.out]; simp only [List.length_cons, List.length_nil]; omega; done)
             focus (rw [HM.out]; simp only [List.length_cons, List.length_nil]; omega; done)
             focus (refine Nat.le_trans HB1.out.size ?_; simp; done)
             intro p9 m9 c9 w9 hown9 hg9 hb9
             have O9 := Lib.hid hown9
             have B9 : Hid (Below w.heap.size w w9) := Lib.hid (HB1.out.trans (Below.trans (by (repeat (first | with_reducible exact Below.refl _ _ | with_reducible refine Below.drew ?_ | with_reducible exact (Below.refl _ _).alloc HB1.out.size _))) hb9))
             clear hown9 hg9 hb9)
          | (refine step_apSl (by rfl) (.tmp 22) (.tmp 25) 40 40 (by rfl) w.heap.size 42 42 (.int .u64 0) 8 Try.underlying40 Try.underlying40 info_u64 rfl (.slice p9 m9 c9) (0 + (u64s (S.take m)).length + 1) ([] ++ u64s (S.take m) ++ [.int .u64 (k : Int)]) (by go_simp) ?_ (.slice a2 (n - m) (cap - m)) (u64s (S.drop m)) (by go_simp) ?_ ?_ ?_ ?_ ?_ ?_
             focus (first | exact O9.out | exact row_drew O9.out; done)
             focus (first | exact TL.out _ B9.out | exact TL.out _ B9.out.drew; done)
             focus (exact u64s_one _; done)
             focus ((try unfold maxLen); rw [HM.out, u64s_len, List.length_drop, HNS.out]; omega; done)
             focus (rw [HM.out, u64s_len, List.length_drop, HNS.out]; omega; done)
             focus (exact Nat.le_trans B9.out.size (by simp); done)
             intro p8 m8 c8 w8 hown8 hg8 hb8
             have O8 := Lib.hid hown8
             have B8 : Hid (Below w.heap.size w w8) := Lib.hid (B9.out.trans (Below.trans (by (repeat (first | with_reducible exact Below.refl _ _ | with_reducible refine Below.drew ?_))) hb8))
             clear hown8 hg8 hb8)
          | fail)
      all_goals
        go_wp2_with fail
        go_ret
        have h8 := O8.out
        have e8 : [] ++ u64s (S.take m) ++ [.int .u64 (k : Int)] ++ u64s (S.drop m) = u64s (S.take m ++ k :: S.drop m) := by simp [u64s]
        rw [e8] at h8
        exact ⟨.slice p8 m8 c8, rfl, Us.of h8, B8.out⟩
end Go.Proofs.Ytidekgmpbcnfmaa
