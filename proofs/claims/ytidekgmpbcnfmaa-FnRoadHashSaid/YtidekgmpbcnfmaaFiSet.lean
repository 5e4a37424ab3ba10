/- Walks of package fastinteger: set, get, exists. -/
import Derived.Test.YtidekgmpbcnfmaaFiFind
import Derived.RegionTactic
import Derived.ChangeAlike
namespace Go.Proofs.Ytidekgmpbcnfmaa
set_option linter.unusedVariables false
open Go.RowKit

/-- all blocks but rows of packets' pointers and packets stay -/
def KeepX (w w' : World) : Prop := w.heap.size ≤ w'.heap.size ∧ ∀ (k : Nat) (c : Array Value) (t : TypeId) (fr : Nat × Nat), t ≠ 85 → t ≠ 87 → w.heap[k]? = some (.cells c t fr) → w'.heap[k]? = some (.cells c t fr)
theorem KeepX.refl (w : World) : KeepX w w := ⟨Nat.le_refl _, fun _ _ _ _ _ _ h => h⟩
theorem KeepX.trans {w w1 w2 : World} (h : KeepX w w1) (h2 : KeepX w1 w2) : KeepX w w2 := ⟨Nat.le_trans h.1 h2.1, fun k c t fr a b hc => h2.2 k c t fr a b (h.2 k c t fr a b hc)⟩
theorem KeepX.of_below {w w' : World} (h : Below w.heap.size w w') : KeepX w w' := ⟨h.size, fun k c t fr _ _ hc => (h.block k (Array.getElem?_eq_some_iff.1 hc).1).trans hc⟩
theorem KeepX.store {w : World} {b o : Nat} {c : Array Value} {t : TypeId} {fr : Nat × Nat} (hb : w.heap[b]? = some (.cells c t fr)) (ht : t = 85 ∨ t = 87) (u : Value) : KeepX w (w.setCell ⟨b, o, none⟩ u) := by
  refine ⟨by simp, fun k c' t' fr' h1 h2 hc => ?_⟩
  refine (Below.heap_setCell w ⟨b, o, none⟩ u k (fun e => ?_)).trans hc
  subst e
  rw [hb] at hc
  injection hc with hc
  injection hc with _ hc
  subst hc
  rcases ht with h | h
  · exact h1 h
  · exact h2 h
theorem Tabl.rowBlk {w : World} {Z g m : Nat} {T : Fi.Tb} (h : Tabl w Z g m T) : ∃ c, w.heap[g]? = some (.cells c 85 (0, 0)) := by
  rcases h.row.2 with ⟨h0, _⟩ | ⟨g', cap, cur, e, _, hg, _⟩
  · cases h0
  · simp only [Value.slice.injEq, Option.some.injEq, Addr.mk.injEq, and_true, true_and] at e
    obtain ⟨rfl, _⟩ := e
    exact ⟨cur, hg⟩
theorem Tabl.neRow {w : World} {Z g m : Nat} {T : Fi.Tb} (h : Tabl w Z g m T) {b : Nat} {t : TypeId} {cs : Array Value} (hb : Blk w b t cs) (ht : t ≠ 85) : b ≠ g := by
  obtain ⟨c, hg⟩ := h.rowBlk
  rintro rfl
  unfold Blk at hb
  rw [hb] at hg
  injection hg with hg
  injection hg with _ hg
  exact ht hg
theorem Tabl.drew {w : World} {Z g m : Nat} {T : Fi.Tb} (h : Tabl w Z g m T) : Tabl w.drew Z g m T := ⟨h.row, h.pk⟩
theorem Tabl.drewN {w : World} {Z g m : Nat} {T : Fi.Tb} (h : Tabl w Z g m T) (n : Nat) : Tabl (w.drewN n) Z g m T := ⟨h.row, h.pk⟩
theorem pv_one (o : Option Fi.Ent) : (pv o).oneCell' = true := by cases o <;> rfl
/-- a place of the table is written -/
theorem Tabl.put {w : World} {Z g m : Nat} {T : Fi.Tb} (h : Tabl w Z g m T) {i : Nat} (hi : i < m) (o : Option Fi.Ent) (ho : ∀ e, o = some e → Blk w e.1 87 #[.int .u64 e.2.1, .int .u64 e.2.2] ∧ Z ≤ e.1) :
    Tabl (w.setCell ⟨g, i, none⟩ (pv o)) Z g m (T.set i o) := by
  have hl := h.len
  refine ⟨?_, fun e he => ?_⟩
  · rw [List.map_set]
    exact (h.row.stored i (pv o)).1
  · obtain ⟨j, hj⟩ := he
    have hk : Blk w e.1 87 #[.int .u64 e.2.1, .int .u64 e.2.2] ∧ Z ≤ e.1 := by
      rw [Fi.set_at (by omega)] at hj
      by_cases hij : i = j
      · rw [if_pos hij] at hj
        injection hj with hj
        exact ho e hj
      · rw [if_neg hij] at hj
        exact h.pk e ⟨j, hj⟩
    exact ⟨hk.1.other (h.neRow hk.1 (by decide)) _, hk.2⟩
/-- the value of a packet is written -/
theorem Tabl.val {w : World} {Z g m : Nat} {T : Fi.Tb} (h : Tabl w Z g m T) (hkey : ∀ (i j b : Nat) (k v : Int) (b' : Nat) (v' : Int), T[i]? = some (some (b, k, v)) → T[j]? = some (some (b', k, v')) → i = j) {i b : Nat} {k v : Int} (hi : T[i]? = some (some (b, k, v))) (v' : Int) :
    Tabl (w.setCell ⟨b, 1, none⟩ (.int .u64 v')) Z g m (T.set i (some (b, k, v'))) := by
  have hil : i < T.length := (List.getElem?_eq_some_iff.1 hi).1
  have hb := h.pk (b, k, v) ⟨i, hi⟩
  have hbg := h.neRow hb.1 (by decide)
  refine ⟨?_, fun e he => ?_⟩
  · have e1 : (T.set i (some (b, k, v'))).map pv = T.map pv := by
      rw [List.map_set]
      apply List.ext_getElem?
      intro j
      rw [List.getElem?_set]
      by_cases hij : i = j
      · subst hij
        simp [hil, hi, pv]
        have hTi := (List.getElem?_eq_some_iff.1 hi).2
        rw [hTi]
      · simp [hij]
    rw [e1]
    exact h.row.kept (w' := w.setCell ⟨b, 1, none⟩ (.int .u64 v')) (row := some b) ⟨rfl, rfl, rfl, by simp, fun k _ hk => Below.heap_setCell w _ _ k (fun e => hk (by rw [e]))⟩ (.inr (by simp [Value.ownBlock]; exact fun e => hbg e.symm))
  · obtain ⟨j, hj⟩ := he
    rw [Fi.set_at hil] at hj
    by_cases hij : i = j
    · rw [if_pos hij] at hj
      injection hj with hj
      injection hj with hj
      subst hj
      exact ⟨by simpa using hb.1.set 1 (.int .u64 v'), hb.2⟩
    · rw [if_neg hij] at hj
      have he := h.pk e ⟨j, hj⟩
      refine ⟨he.1.other (fun e1 => ?_) _, he.2⟩
      obtain ⟨b2, k2, v2⟩ := e
      simp only at e1 he
      subst e1
      have h1 := he.1
      have h2 := hb.1
      unfold Blk at h1 h2
      rw [h1] at h2
      have h3 : k2 = k := by
        injection h2 with h2
        injection h2 with h2
        simp at h2
        exact h2.1
      subst h3
      exact hij (hkey _ _ _ _ _ _ _ hi hj)

def SetPost (F : Int → Nat) (Z g m : Nat) (T : Fi.Tb) (b : Nat) (k v : Int) (w : World) (e : Ending) (w' : World) : Prop :=
  e = .returned (.tuple #[]) ∧ (∃ i, Fi.Found m (home F m) T k i ∧ ((T[i]? = some none ∧ Tabl w' Z g m (T.set i (some (b, k, v)))) ∨ ∃ b' v', T[i]? = some (some (b', k, v')) ∧ Tabl w' Z g m (T.set i (some (b', k, v))))) ∧
    KeepX w w' ∧ Below Z w w' ∧ (∀ c t k, Blk w k t c → k ≠ g → (∀ e, Fi.Has T e → e.1 ≠ k) → Blk w' k t c)

set_option maxRecDepth 100000 in
set_option maxHeartbeats 2000000 in
theorem fset_any (F : Int → Nat) (hF : HomeIs F) (Z g m j b : Nat) (T : Fi.Tb) (k v : Int) (w : World) (hm : m = 2 ^ j) (hj : j ≤ 12) (hT : Tabl w Z g m T) (hfr : Fi.Free T) (hZ : Z ≤ w.heap.size)
    (hkey : ∀ (i j b : Nat) (k v : Int) (b' : Nat) (v' : Int), T[i]? = some (some (b, k, v)) → T[j]? = some (some (b', k, v')) → i = j) (hb : Blk w b 87 #[.int .u64 k, .int .u64 v]) (hbZ : Z ≤ b) :
    Calls Try.prog 34 #[.slice (some ⟨g, 0, none⟩) m m, .pointer (some ⟨b, 0, none⟩)] w (SetPost F Z g m T b k v w) := by
  have HC := Lib.hid (find_any F hF Z g m j T k w hm hj hT hfr)
  have h2 : 2 ^ j ≤ 2 ^ 12 := Nat.pow_le_pow_right (by decide) hj
  have h1 : 0 < 2 ^ j := Nat.pow_pos (by decide)
  have hm9 : (m : Int) ≤ 4096 := by omega
  have hm0 : 0 < m := by omega
  have q0 : w.cell? ⟨b, 0, none⟩ = some (.int .u64 k) := hb.cell 0 rfl
  have q1 : w.cell? ⟨b, 1, none⟩ = some (.int .u64 v) := hb.cell 1 rfl
  have HT := Lib.hid hT
  have HB := Lib.hid hb
  have HK := Lib.hid hkey
  have HG := Lib.hid (hT.row.lt g rfl)
  clear hT hfr hkey hb hm h2 h1 hj
  go_enter Try.func34, Try.ntmps34
  go_wp2_with fail
  refine HC.out.mono ?_
  rintro e w1 ⟨i, rfl, hf, rfl⟩
  have him : i < m := hf.lt (home_lt hm0 k)
  have hiI : (i : Int) < (m : Int) := by omega
  have hi0 : (0 : Int) ≤ (i : Int) := by omega
  have HF := Lib.hid hf
  obtain ⟨o, ho⟩ : ∃ o, T[i]? = some o := ⟨T[i]'(by rw [HT.out.len]; exact him), by rw [List.getElem?_eq_getElem]⟩
  have hc0 := HT.out.at ho
  have hfz : w.frozen? ⟨g, i, none⟩ = false := HT.out.row.frozenAt i
  have HO := Lib.hid ho
  clear hf ho HC
  cases o with
  | none =>
    have hc : w.cell? ⟨g, i, none⟩ = some (.pointer none) := hc0
    clear hc0
    go_wp2_with fail
    go_end0
    obtain ⟨c, hg⟩ := HT.out.rowBlk
    refine ⟨rfl, ⟨i, HF.out, .inl ⟨HO.out, HT.out.put him (some (b, k, v)) (fun e he => by injection he with he; subst he; exact ⟨HB.out, hbZ⟩)⟩⟩, KeepX.store hg (.inl rfl) _, (Below.refl _ _).setCell HG.out.1 _, fun c t k hk hne _ => hk.other hne _⟩
  | some e =>
    obtain ⟨b', k', v'⟩ := e
    have hk' : k' = k := by
      obtain ⟨d, f1, f2, f3, f4⟩ := HF.out
      rcases f4 with h | ⟨b2, v2, h⟩
      · rw [HO.out] at h; cases h
      · rw [HO.out] at h
        simp at h
        exact h.2.1
    subst hk'
    have hc : w.cell? ⟨g, i, none⟩ = some (.pointer (some ⟨b', 0, none⟩)) := hc0
    have hpk := HT.out.pk (b', k', v') ⟨i, HO.out⟩
    have p1 : w.cell? ⟨b', 1, none⟩ = some (.int .u64 v') := hpk.1.cell 1 rfl
    have f1 := hpk.1.free 1
    have HPK := Lib.hid hpk
    clear hc0 hpk
    go_wp2_with fail
    go_region
    all_goals
      go_wp2_with fail
      go_end0
      refine ⟨rfl, ⟨i, HF.out, .inr ⟨b', v', HO.out, ?_⟩⟩, ?_, ?_, ?_⟩
      · exact (HT.out.val HK.out HO.out v).drew
      · exact KeepX.store HPK.out.1 (.inr rfl) _
      · exact ((Below.refl _ _).setCell (by simp only []; exact HPK.out.2) _).drew
      · intro c t k hk _ hne
        exact hk.other (fun e => hne (b', k', v') ⟨i, HO.out⟩ e.symm) _
end Go.Proofs.Ytidekgmpbcnfmaa
