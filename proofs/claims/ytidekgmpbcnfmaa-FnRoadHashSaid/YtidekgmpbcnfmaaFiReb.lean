/- Walk of (*FastIntegerHashMap).rebuild. -/
import Derived.Test.YtidekgmpbcnfmaaFiDel
namespace Go.Proofs.Ytidekgmpbcnfmaa
set_option linter.unusedVariables false
open Go.RowKit

/-- a map: how many items it counts, its table of 2 to the j places -/
structure MapAt (w : World) (F : Int → Nat) (Z s g m j c : Nat) (T : Fi.Tb) : Prop where
  blk : Blk w s 82 #[.int .u64 (c : Int), .slice (some ⟨g, 0, none⟩) m m]
  tab : Tabl w Z g m T
  ok : Fi.Ok m (home F m) T
  hm : m = 2 ^ j
  hj : j ≤ 10
  occ : Fi.occ T ≤ c
  full : 4 * c ≤ 3 * m
  zs : Z ≤ s
theorem MapAt.pos {w : World} {F : Int → Nat} {Z s g m j c : Nat} {T : Fi.Tb} (h : MapAt w F Z s g m j c T) : 0 < m := by rw [h.hm]; exact Nat.pow_pos (by decide)
theorem MapAt.free {w : World} {F : Int → Nat} {Z s g m j c : Nat} {T : Fi.Tb} (h : MapAt w F Z s g m j c T) : Fi.Free T := by
  refine Fi.free_of ?_
  have h1 := h.pos
  have h2 := h.occ
  have h3 := h.full
  rw [h.tab.len]
  omega
theorem MapAt.below {w w' : World} {F : Int → Nat} {Z s g m j c : Nat} {T : Fi.Tb} (h : MapAt w F Z s g m j c T) (hb : Below w.heap.size w w') : MapAt w' F Z s g m j c T :=
  ⟨h.blk.below hb h.blk.lt, h.tab.below hb, h.ok, h.hm, h.hj, h.occ, h.full, h.zs⟩
/-- all blocks but block s and rows of packets' pointers and packets stay -/
def KeepY (s : Nat) (w w' : World) : Prop := w.heap.size ≤ w'.heap.size ∧ ∀ (k : Nat) (c : Array Value) (t : TypeId) (fr : Nat × Nat), k ≠ s → t ≠ 85 → t ≠ 87 → w.heap[k]? = some (.cells c t fr) → w'.heap[k]? = some (.cells c t fr)
theorem KeepY.of {s : Nat} {w w' : World} (h : KeepX w w') : KeepY s w w' := ⟨h.1, fun k c t fr _ a b hc => h.2 k c t fr a b hc⟩
theorem KeepY.trans {s : Nat} {w w1 w2 : World} (h : KeepY s w w1) (h2 : KeepY s w1 w2) : KeepY s w w2 := ⟨Nat.le_trans h.1 h2.1, fun k c t fr a b d hc => h2.2 k c t fr a b d (h.2 k c t fr a b d hc)⟩
theorem KeepY.set {s o : Nat} {w w1 : World} (h : KeepY s w w1) (u : Value) : KeepY s w (w1.setCell ⟨s, o, none⟩ u) :=
  h.trans ⟨by simp, fun k c t fr hk _ _ hc => (Below.heap_setCell w1 _ u k hk).trans hc⟩

theorem info_pp : (Try.prog.info? 85).map (fun i => (i.zero, i.size, i.bytes)) = some (some (.pointer none), 1, 8) := by kernel_rfl

theorem rup_next {m j : Nat} (hm : m = 2 ^ j) (hj : j ≤ 9) : rup ((m + 1 : Nat) : Int) = ((2 ^ (j + 1) : Nat) : Int) := by
  have h2 : 2 ^ j ≤ 2 ^ 9 := Nat.pow_le_pow_right (by decide) hj
  have h1 : 0 < 2 ^ j := Nat.pow_pos (by decide)
  obtain ⟨j', h3, h4, h5, h6⟩ := rup_pow (m + 1) (by omega) (by omega)
  rw [h4]
  congr 2
  subst hm
  have hlt : j < j' := (Nat.pow_lt_pow_iff_right (a := 2) (by decide)).1 (by omega)
  rcases Nat.lt_or_ge j' (j + 2) with h | h
  · omega
  · exfalso
    have := Nat.pow_le_pow_right (n := 2) (by decide) h
    have e : 2 ^ (j + 2) = 4 * 2 ^ j := by rw [Nat.pow_add]; omega
    omega

theorem has_take {T : Fi.Tb} {i : Nat} {o : Option Fi.Ent} (hi : T[i]? = some o) (e : Fi.Ent) : Fi.Has (T.take (i + 1)) e ↔ Fi.Has (T.take i) e ∨ o = some e := by
  have hil := (List.getElem?_eq_some_iff.1 hi).1
  constructor
  · rintro ⟨a, ha⟩
    rw [List.getElem?_take] at ha
    split at ha
    · rename_i hlt
      by_cases h : a = i
      · subst h; rw [hi] at ha; injection ha with ha; exact .inr ha
      · exact .inl ⟨a, by rw [List.getElem?_take, if_pos (by omega)]; exact ha⟩
    · cases ha
  · rintro (⟨a, ha⟩ | rfl)
    · rw [List.getElem?_take] at ha
      split at ha
      · exact ⟨a, by rw [List.getElem?_take, if_pos (by omega)]; exact ha⟩
      · cases ha
    · exact ⟨i, by rw [List.getElem?_take, if_pos (by omega)]; exact hi⟩
theorem occ_take {T : Fi.Tb} {i : Nat} {o : Option Fi.Ent} (hi : T[i]? = some o) : Fi.occ (T.take (i + 1)) = Fi.occ (T.take i) + (if o.isSome then 1 else 0) := by
  have hil := (List.getElem?_eq_some_iff.1 hi).1
  rw [List.take_succ_eq_append_getElem hil]
  have := (List.getElem?_eq_some_iff.1 hi).2
  rw [this]
  unfold Fi.occ
  rw [List.filterMap_append, List.length_append]
  cases o <;> simp
theorem occ_take_le (T : Fi.Tb) (i : Nat) : Fi.occ (T.take i) ≤ Fi.occ T := by
  unfold Fi.occ
  exact ((List.take_sublist i T).filterMap id).length_le

def RebLoop (F : Int → Nat) (Z g m g2 m2 : Nat) (T : Fi.Tb) (w : World) (k : Nat) (idx : Value) (wr : World) : Prop :=
  ∃ (i : Nat) (N : Fi.Tb), idx = .int .i64 (i : Int) ∧ i + k = m ∧ Tabl wr Z g m T ∧ Tabl wr Z g2 m2 N ∧ Fi.Ok m2 (home F m2) N ∧ Fi.occ N = Fi.occ (T.take i) ∧ (∀ e : Fi.Ent, Fi.Has N e ↔ Fi.Has (T.take i) e) ∧ KeepX w wr ∧ Below Z w wr
def RebPost (F : Int → Nat) (Z s m j c : Nat) (T : Fi.Tb) (w : World) (e : Ending) (w' : World) : Prop :=
  ∃ g2 N, e = .returned (.tuple #[]) ∧ MapAt w' F Z s g2 (2 ^ (j + 1)) (j + 1) c N ∧ Fi.occ N = Fi.occ T ∧ (∀ e : Fi.Ent, Fi.Has N e ↔ Fi.Has T e) ∧ KeepY s w w' ∧ Below Z w w'

/-- the old table behind a set in the new one -/
theorem Tabl.other {w w' : World} {Z g m g2 m2 : Nat} {T N N' : Fi.Tb} (h : Tabl w Z g m T) (hN : Tabl w Z g2 m2 N) (hne : g ≠ g2) (hN' : Tabl w' Z g2 m2 N') (hsub : ∀ e, Fi.Has N e → Fi.Has N' e)
    (hk : ∀ c t k, Blk w k t c → k ≠ g2 → (∀ e, Fi.Has N e → e.1 ≠ k) → Blk w' k t c) : Tabl w' Z g m T := by
  refine ⟨⟨h.row.1, ?_⟩, fun e he => ⟨?_, (h.pk e he).2⟩⟩
  · rcases h.row.2 with h0 | ⟨g', cap, cur, e, hbg, hg, r⟩
    · exact .inl h0
    · have hgg : g = g' := by
        simp only [Value.slice.injEq, Option.some.injEq, Addr.mk.injEq, and_true, true_and] at e
        exact e.1
      subst hgg
      refine .inr ⟨g, cap, cur, e, hbg, hk cur _ g hg hne (fun e he => h.neRow (hN.pk e he).1 (by decide)), r⟩
  · have he1 := (h.pk e he).1
    by_cases hin : Fi.Has N e
    · exact (hN'.pk e (hsub e hin)).1
    · refine hk _ _ _ he1 (hN.neRow he1 (by decide)) (fun e' he' e1 => hin ?_)
      have he2 := (hN.pk e' he').1
      obtain ⟨b, k, v⟩ := e
      obtain ⟨b', k', v'⟩ := e'
      simp only at e1 he1 he2
      subst e1
      unfold Blk at he1 he2
      rw [he1] at he2
      injection he2 with he2
      injection he2 with he2
      simp at he2
      obtain ⟨rfl, rfl⟩ := he2
      exact he'

set_option maxRecDepth 100000 in
set_option maxHeartbeats 4000000 in
theorem rebuild_any (F : Int → Nat) (hF : HomeIs F) (Z s g m j c : Nat) (T : Fi.Tb) (w : World) (hM : MapAt w F Z s g m j c T) (hj : j ≤ 9) (hZ : Z ≤ w.heap.size) :
    Calls Try.prog 33 #[.pointer (some ⟨s, 0, none⟩)] w (RebPost F Z s m j c T w) := by
  have h2 : 2 ^ j ≤ 2 ^ 9 := Nat.pow_le_pow_right (by decide) hj
  have hm0 := hM.pos
  have hm := hM.hm
  have hm9 : (m : Int) ≤ 1024 := by omega
  have hmn : m ≤ 512 := by omega
  have c1 : w.cell? ⟨s, 1, none⟩ = some (.slice (some ⟨g, 0, none⟩) m m) := hM.blk.cell 1 rfl
  have hsl := hM.blk.lt
  have hrup := rup_next hm hj
  have HRC := Lib.hid (roundup_any (m + 1) w (by omega) (by omega))
  rw [hrup] at HRC
  obtain ⟨m2, hm2⟩ : ∃ m2, 2 ^ (j + 1) = m2 := ⟨_, rfl⟩
  have hmm : m2 = 2 * m := by rw [← hm2, hm, Nat.pow_succ]; omega
  rw [hm2] at HRC
  rw [show ((m + 1 : Nat) : Int) = (m : Int) + 1 by omega] at HRC
  have HM2 := Lib.hid hm2
  have HMM := Lib.hid hmm
  have HM := Lib.hid hM
  have hm29 : m2 ≤ 1024 := by omega
  clear hM hm h2 hrup hm2 hmm
  go_enter Try.func33, Try.ntmps33
  go_wp2_with fail
  refine HRC.out.mono ?_
  rintro e w' ⟨rfl, rfl⟩
  clear HRC
  go_wp2_with (at_make; refine wpList_make1 rfl _ _ 80 rfl Z 85 (.pointer none) 8 Try.underlying80 info_pp rfl _ _ _ _ m2 rfl rfl rfl rfl (by omega) (by unfold maxLen; omega) hZ ?_; intro w1 hown1 hb1 hs1; have c1a := (hb1.cell (p := ⟨s, 1, none⟩) hsl).trans c1; have HO1 := Lib.hid hown1; have HB1 := Lib.hid hb1; have HS1 := Lib.hid hs1; clear hown1 hb1 hs1)
  obtain ⟨g2, hg2⟩ : ∃ g2, w.heap.size = g2 := ⟨_, rfl⟩
  rw [hg2] at HO1 ⊢
  have HG2 := Lib.hid hg2
  have hgg : g ≠ g2 := by have := (HM.out.tab.row.lt g rfl).2; omega
  have HGG := Lib.hid hgg
  clear hg2 hgg c1
  go_loopg [19] m (fun k idx wr => RebLoop F Z g m g2 m2 T w k idx wr)
  case atStart =>
    refine ⟨0, List.replicate m2 none, rfl, by omega, HM.out.tab.below HB1.out, ⟨by simpa [pv] using HO1.out, ?_⟩, ⟨by simp, fun k => home_lt (by have := HMM.out; omega) k, ?_, ?_⟩, ?_, ?_, KeepX.of_below HB1.out, HB1.out.mono hZ⟩
    · rintro e ⟨i, hi⟩; simp [List.getElem?_replicate] at hi
    · intro i j b k v b' v' hi; simp [List.getElem?_replicate] at hi
    · intro i b k v hi; simp [List.getElem?_replicate] at hi
    · simp [Fi.occ, List.filterMap_replicate_of_none]
    · intro e
      constructor
      · rintro ⟨i, hi⟩; simp [List.getElem?_replicate] at hi
      · rintro ⟨i, hi⟩; simp at hi
  case round =>
    obtain ⟨i, N, rfl, hik, hTT, hTN, hok, hocc, hhas, hkp, hbl⟩ := hrel
    have HTT := Lib.hid hTT
    have HTN := Lib.hid hTN
    have HOK := Lib.hid hok
    have HOCC := Lib.hid hocc
    have HHAS := Lib.hid hhas
    have HKP := Lib.hid hkp
    have HBL := Lib.hid hbl
    by_cases hi : i < m
    · cases gk with
      | zero => omega
      | succ k =>
        have hiI : (i : Int) < (m : Int) := by omega
        have hi0 : (0 : Int) ≤ (i : Int) := by omega
        obtain ⟨o, ho⟩ : ∃ o, T[i]? = some o := ⟨T[i]'(by rw [hTT.len]; exact hi), by rw [List.getElem?_eq_getElem]⟩
        have hocc2 := occ_take ho
        have hhas2 := has_take ho
        cases o with
        | none =>
          have hc : wr.cell? ⟨g, i, none⟩ = some (.pointer none) := hTT.at ho
          have HO2 := Lib.hid hocc2
          have HH2 := Lib.hid hhas2
          clear hTT hTN hok hocc hhas hkp hbl ho hocc2 hhas2
          go_wp2_with fail
          go_roundg k
          case measure => omega
          case rel =>
            exact ⟨i + 1, N, by go_num, by omega, HTT.out, HTN.out, HOK.out, by rw [HO2.out]; simpa using HOCC.out, fun e => by rw [HH2.out, HHAS.out]; simp, HKP.out, HBL.out⟩
        | some e0 =>
          obtain ⟨b1, k1, v1⟩ := e0
          have hc : wr.cell? ⟨g, i, none⟩ = some (.pointer (some ⟨b1, 0, none⟩)) := hTT.at ho
          have hpk := hTT.pk (b1, k1, v1) ⟨i, ho⟩
          have hnot : ∀ b v, ¬ Fi.Has N (b, k1, v) := by
            intro b v hh
            obtain ⟨a, ha⟩ := (hhas _).1 hh
            rw [List.getElem?_take] at ha
            split at ha
            · rename_i hlt
              have := HM.out.ok.key _ _ _ _ _ _ _ ho ha
              omega
            · cases ha
          have hfreeN : Fi.Free N := by
            refine Fi.free_of ?_
            rw [hTN.len, hocc]
            have h1 := occ_take_le T i
            have h2 := HM.out.occ
            have h3 := HM.out.full
            have := HMM.out
            omega
          have HCS := Lib.hid (fset_any F hF Z g2 m2 (j + 1) b1 N k1 v1 wr HM2.out.symm (by omega) hTN hfreeN (Nat.le_trans hZ hbl.size) hok.key hpk.1 hpk.2)
          have HO2 := Lib.hid hocc2
          have HH2 := Lib.hid hhas2
          have HNOT := Lib.hid hnot
          clear hTT hTN hok hocc hhas hkp hbl ho hocc2 hhas2 hpk hnot hfreeN
          go_wp2_with fail
          refine HCS.out.mono ?_
          rintro e w2 ⟨rfl, ⟨q, hfs, hor⟩, hk2, hb2, hoth⟩
          have hnone : N[q]? = some none ∧ Tabl w2 Z g2 m2 (N.set q (some (b1, k1, v1))) := by
            rcases hor with h | ⟨b', v', h, _⟩
            · exact h
            · exact absurd ⟨q, h⟩ (HNOT.out b' v')
          have hql : q < N.length := (List.getElem?_eq_some_iff.1 hnone.1).1
          have hok2 := Fi.set_new HOK.out (b := b1) (v := v1) hfs hnone.1
          have hsub : ∀ e, Fi.Has N e → Fi.Has (N.set q (some (b1, k1, v1))) e := fun e he => (Fi.has_set hql hnone.1 e).2 (.inl he)
          have htt := HTT.out.other HTN.out HGG.out hnone.2 hsub hoth
          have HTT2 := Lib.hid htt
          have HTN2 := Lib.hid hnone.2
          have HOK2 := Lib.hid hok2
          have hoc := Fi.occ_new (e := (b1, k1, v1)) hnone.1
          have HOC2 := Lib.hid hoc
          have hha := Fi.has_set (e := (b1, k1, v1)) hql hnone.1
          have HHA2 := Lib.hid hha
          have HKB := Lib.hid (And.intro (HKP.out.trans hk2) (HBL.out.trans hb2))
          clear hfs hor hk2 hb2 hoth hnone hql hok2 hsub htt hoc hha
          go_wp2_with fail
          go_roundg k
          case measure => omega
          case rel =>
            refine ⟨i + 1, _, by go_num, by omega, HTT2.out, HTN2.out, HOK2.out, by rw [HO2.out, HOC2.out, HOCC.out]; rfl, fun e => ?_, HKB.out.1, HKB.out.2⟩
            rw [HH2.out, HHA2.out, HHAS.out]
            simp only [Option.some.injEq]
            exact or_congr Iff.rfl eq_comm
    · obtain rfl : i = m := by omega
      have hd : decide ((i : Int) < (i : Int)) = false := by simp
      have hfin : T.take i = T := List.take_of_length_le (by rw [hTT.len]; exact Nat.le_refl _)
      have hsb : Blk wr s 82 #[.int .u64 (c : Int), .slice (some ⟨g, 0, none⟩) i i] := hkp.2 _ _ _ _ (by decide) (by decide) HM.out.blk
      have r1 : wr.cell? ⟨s, 1, none⟩ = some (.slice (some ⟨g, 0, none⟩) i i) := hsb.cell 1 rfl
      have f1 := hsb.free 1
      have HSB := Lib.hid hsb
      have HF := Lib.hid hfin
      clear hTT hTN hok hocc hhas hkp hbl hfin hsb
      go_wp2_with fail
      go_end0
      have hocc := HOCC.out
      have hhas := HHAS.out
      rw [HF.out] at hocc
      rw [HF.out] at hhas
      have hne : s ≠ g2 := HTN.out.neRow HSB.out (by decide)
      refine ⟨g2, N, rfl, ?_, hocc, hhas, (KeepY.of HKP.out).set _, HBL.out.setCell HM.out.zs _⟩
      rw [HM2.out]
      refine ⟨by simpa using HSB.out.set 1 (.slice (some ⟨g2, 0, none⟩) m2 m2), ⟨?_, fun e he => ⟨(HTN.out.pk e he).1.other (fun e1 => ?_) _, (HTN.out.pk e he).2⟩⟩, HOK.out, HM2.out.symm, by omega, by rw [hocc]; exact HM.out.occ, by have := HM.out.full; have := HMM.out; omega, HM.out.zs⟩
      · exact HTN.out.row.kept (row := some s) ⟨rfl, rfl, rfl, by simp, fun k _ hk => Below.heap_setCell wr _ _ k (fun e => hk (by rw [e]))⟩ (.inr (by simp [Value.ownBlock]; exact fun e => hne e.symm))
      · have h1 := (HTN.out.pk e he).1
        have h2 := HSB.out
        simp only at e1
        rw [e1] at h1
        unfold Blk at h1 h2
        rw [h1] at h2
        injection h2 with h2
        injection h2 with _ h2
        cases h2
end Go.Proofs.Ytidekgmpbcnfmaa
