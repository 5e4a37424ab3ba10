/- Walks of package fastinteger: get, exists, delete. -/
import Derived.Test.YtidekgmpbcnfmaaFiSet
namespace Go.Proofs.Ytidekgmpbcnfmaa
set_option linter.unusedVariables false
open Go.RowKit

/-- what a table holds with a key -/
def Look (T : Fi.Tb) (k : Int) : Option Int → Prop
  | none => ∀ b v, ¬ Fi.Has T (b, k, v)
  | some v => ∃ b, Fi.Has T (b, k, v)
theorem found_look {m : Nat} {h : Int → Nat} {T : Fi.Tb} {k : Int} {i : Nat} (ok : Fi.Ok m h T) (f : Fi.Found m h T k i) : (T[i]? = some none ∧ Look T k none) ∨ ∃ b v, T[i]? = some (some (b, k, v)) ∧ Look T k (some v) := by
  obtain ⟨d, f1, f2, f3, f4⟩ := f
  rcases f4 with h0 | ⟨b, v, h0⟩
  · exact .inl ⟨h0, Fi.found_none ok ⟨d, f1, f2, f3, .inl h0⟩ h0⟩
  · exact .inr ⟨b, v, h0, b, i, h0⟩

def GetPost (T : Fi.Tb) (k : Int) (w : World) (e : Ending) (w' : World) : Prop := ∃ o : Option Int, e = .returned (.tuple #[.int .u64 (o.getD 0), .bool o.isSome]) ∧ Look T k o ∧ w = w'
def ExPost (T : Fi.Tb) (k : Int) (w : World) (e : Ending) (w' : World) : Prop := ∃ o : Option Int, e = .returned (.bool o.isSome) ∧ Look T k o ∧ w = w'

set_option maxHeartbeats 1000000 in
theorem fget_any (F : Int → Nat) (hF : HomeIs F) (Z g m j : Nat) (T : Fi.Tb) (k : Int) (w : World) (hm : m = 2 ^ j) (hj : j ≤ 12) (hT : Tabl w Z g m T) (hok : Fi.Ok m (home F m) T) (hfr : Fi.Free T) :
    Calls Try.prog 35 #[.slice (some ⟨g, 0, none⟩) m m, .int .u64 k] w (GetPost T k w) := by
  have HC := Lib.hid (find_any F hF Z g m j T k w hm hj hT hfr)
  have h2 : 2 ^ j ≤ 2 ^ 12 := Nat.pow_le_pow_right (by decide) hj
  have h1 : 0 < 2 ^ j := Nat.pow_pos (by decide)
  have hm9 : (m : Int) ≤ 4096 := by omega
  have hm0 : 0 < m := by omega
  have HT := Lib.hid hT
  have HOK := Lib.hid hok
  clear hT hfr hm h2 h1 hj hok
  go_enter Try.func35, Try.ntmps35
  go_wp2_with fail
  refine HC.out.mono ?_
  rintro e w1 ⟨i, rfl, hf, rfl⟩
  have him : i < m := hf.lt (home_lt hm0 k)
  have hiI : (i : Int) < (m : Int) := by omega
  have hi0 : (0 : Int) ≤ (i : Int) := by omega
  rcases found_look HOK.out hf with ⟨ho, hl⟩ | ⟨b, v, ho, hl⟩
  · have hc : w.cell? ⟨g, i, none⟩ = some (.pointer none) := HT.out.at ho
    have HLK := Lib.hid hl
    clear hf ho HC hl
    go_wp2_with fail
    go_ret2
    exact ⟨none, rfl, HLK.out, rfl⟩
  · have hc : w.cell? ⟨g, i, none⟩ = some (.pointer (some ⟨b, 0, none⟩)) := HT.out.at ho
    have p1 : w.cell? ⟨b, 1, none⟩ = some (.int .u64 v) := (HT.out.pk (b, k, v) ⟨i, ho⟩).1.cell 1 rfl
    have HLK := Lib.hid hl
    clear hf ho HC hl
    go_wp2_with fail
    go_ret2
    exact ⟨some v, rfl, HLK.out, rfl⟩
set_option maxHeartbeats 1000000 in
theorem fexists_any (F : Int → Nat) (hF : HomeIs F) (Z g m j : Nat) (T : Fi.Tb) (k : Int) (w : World) (hm : m = 2 ^ j) (hj : j ≤ 12) (hT : Tabl w Z g m T) (hok : Fi.Ok m (home F m) T) (hfr : Fi.Free T) :
    Calls Try.prog 36 #[.slice (some ⟨g, 0, none⟩) m m, .int .u64 k] w (ExPost T k w) := by
  have HC := Lib.hid (find_any F hF Z g m j T k w hm hj hT hfr)
  have h2 : 2 ^ j ≤ 2 ^ 12 := Nat.pow_le_pow_right (by decide) hj
  have h1 : 0 < 2 ^ j := Nat.pow_pos (by decide)
  have hm9 : (m : Int) ≤ 4096 := by omega
  have hm0 : 0 < m := by omega
  have HT := Lib.hid hT
  have HOK := Lib.hid hok
  clear hT hfr hm h2 h1 hj hok
  go_enter Try.func36, Try.ntmps36
  go_wp2_with fail
  refine HC.out.mono ?_
  rintro e w1 ⟨i, rfl, hf, rfl⟩
  have him : i < m := hf.lt (home_lt hm0 k)
  have hiI : (i : Int) < (m : Int) := by omega
  have hi0 : (0 : Int) ≤ (i : Int) := by omega
  rcases found_look HOK.out hf with ⟨ho, hl⟩ | ⟨b, v, ho, hl⟩
  · have hc : w.cell? ⟨g, i, none⟩ = some (.pointer none) := HT.out.at ho
    have HLK := Lib.hid hl
    clear hf ho HC hl
    go_wp2_with fail
    go_ret
    exact ⟨none, rfl, HLK.out, rfl⟩
  · have hc : w.cell? ⟨g, i, none⟩ = some (.pointer (some ⟨b, 0, none⟩)) := HT.out.at ho
    have HLK := Lib.hid hl
    clear hf ho HC hl
    go_wp2_with fail
    go_ret
    exact ⟨some v, rfl, HLK.out, rfl⟩

def FDelLoop (F : Int → Nat) (Z g m : Nat) (T : Fi.Tb) (i b : Nat) (key v : Int) (L : Nat) (w : World) (k : Nat) (idx : Value) (wr : World) : Prop :=
  ∃ (l : Nat) (S : Fi.Tb), idx = .int .u64 ((Fi.wr m i l : Nat) : Int) ∧ Fi.Del m (home F m) T i b key v L l S ∧ l + k = L ∧ Tabl wr Z g m S ∧ KeepX w wr ∧ Below Z w wr
def FDelPost (F : Int → Nat) (Z g m : Nat) (T : Fi.Tb) (k : Int) (w : World) (e : Ending) (w' : World) : Prop :=
  (e = .returned (.bool false) ∧ Look T k none ∧ w = w') ∨
  (∃ S v, e = .returned (.bool true) ∧ Look T k (some v) ∧ Fi.Ok m (home F m) S ∧ Tabl w' Z g m S ∧ (∀ e : Fi.Ent, Fi.Has S e ↔ Fi.Has T e ∧ e.2.1 ≠ k) ∧ Fi.occ S + 1 = Fi.occ T ∧ KeepX w w' ∧ Below Z w w')

set_option maxRecDepth 100000 in
set_option maxHeartbeats 2000000 in
theorem fdelete_any (F : Int → Nat) (hF : HomeIs F) (Z g m j : Nat) (T : Fi.Tb) (k : Int) (w : World) (hm : m = 2 ^ j) (hj : j ≤ 12) (hT : Tabl w Z g m T) (hok : Fi.Ok m (home F m) T) (hfr : Fi.Free T) (hZ : Z ≤ w.heap.size) :
    Calls Try.prog 37 #[.slice (some ⟨g, 0, none⟩) m m, .int .u64 k] w (FDelPost F Z g m T k w) := by
  have HC := Lib.hid (find_any F hF Z g m j T k w hm hj hT hfr)
  have h2 : 2 ^ j ≤ 2 ^ 12 := Nat.pow_le_pow_right (by decide) hj
  have h1 : 0 < 2 ^ j := Nat.pow_pos (by decide)
  have hm1 : (1 : Int) ≤ (m : Int) := by omega
  have hm9 : (m : Int) ≤ 4096 := by omega
  have hm0 : 0 < m := by omega
  have hnext := fun (i : Nat) (hi : i < m) => @mask_next j i (by omega) (by omega)
  rw [← hm] at hnext
  have HNX := Lib.hid hnext
  have HT := Lib.hid hT
  have HOK := Lib.hid hok
  have HFR := Lib.hid hfr
  have HM := Lib.hid (And.intro hm hj)
  clear hT hfr hm h2 h1 hj hok hnext
  go_enter Try.func37, Try.ntmps37
  go_wp2_with fail
  refine HC.out.mono ?_
  rintro e w1 ⟨i, rfl, hf, rfl⟩
  have him : i < m := hf.lt (home_lt hm0 k)
  have hiI : (i : Int) < (m : Int) := by omega
  have hi0 : (0 : Int) ≤ (i : Int) := by omega
  rcases found_look HOK.out hf with ⟨ho, hl⟩ | ⟨b, v, ho, hl⟩
  · have hc : w.cell? ⟨g, i, none⟩ = some (.pointer none) := HT.out.at ho
    have HLK := Lib.hid hl
    clear hf ho HC hl
    go_wp2_with fail
    go_ret
    exact .inl ⟨rfl, HLK.out, rfl⟩
  · have hc : w.cell? ⟨g, i, none⟩ = some (.pointer (some ⟨b, 0, none⟩)) := HT.out.at ho
    have hfz : w.frozen? ⟨g, i, none⟩ = false := HT.out.row.frozenAt i
    obtain ⟨L, hD⟩ := Fi.del_start HOK.out ho HFR.out
    have hlL := hD.lL
    have HD := Lib.hid hD
    have hnx := HNX.out i him
    have htp := HT.out.put him none (fun e he => by cases he)
    obtain ⟨c0, hg0⟩ := HT.out.rowBlk
    have hk1 := KeepX.store (o := i) hg0 (.inl rfl) (.pointer none)
    have hb1 : Below Z w (w.setCell ⟨g, i, none⟩ (.pointer none)) := (Below.refl _ _).setCell (HT.out.row.lt g rfl).1 _
    have HTP := Lib.hid htp
    have HK1 := Lib.hid hk1
    have HB1 := Lib.hid hb1
    have HLK := Lib.hid hl
    clear hf ho HC hl hD htp hg0 hk1 hb1
    go_wp2_with fail
    go_loopg [5] (L - 1) (fun k' idx wr => FDelLoop F Z g m T i b k v L w k' idx wr)
    case atStart => exact ⟨1, T.set i none, rfl, HD.out, by omega, HTP.out, HK1.out, HB1.out⟩
    case round =>
      obtain ⟨l, S, rfl, hD, hlk, hTS, hkp, hbl⟩ := hrel
      have hlm : l < m := by have := hD.lL; have := hD.Lm; omega
      have hjm : Fi.wr m i l < m := Fi.wr_lt him hlm
      have HDS := Lib.hid hD
      have HTS := Lib.hid hTS
      have HKP := Lib.hid hkp
      have HBL := Lib.hid hbl
      obtain ⟨q, hq⟩ : ∃ q, Fi.wr m i l = q := ⟨_, rfl⟩
      have HQ := Lib.hid hq
      rw [hq] at hjm ⊢
      have hqI : (q : Int) < (m : Int) := by omega
      have hq0 : (0 : Int) ≤ (q : Int) := by omega
      have hnx2 := HNX.out q hjm
      by_cases hlL2 : l < L
      · obtain ⟨b1, k1, v1, he⟩ := hD.next hlL2
        rw [hq] at he
        have hc1 : wr.cell? ⟨g, q, none⟩ = some (.pointer (some ⟨b1, 0, none⟩)) := hTS.at he
        have hfz1 : wr.frozen? ⟨g, q, none⟩ = false := hTS.row.frozenAt q
        have hpk := hTS.pk (b1, k1, v1) ⟨q, he⟩
        have htp := hTS.put hjm none (fun e he => by cases he)
        obtain ⟨c1, hg1⟩ := hTS.rowBlk
        have hgb := hTS.neRow hpk.1 (by decide)
        have hk1 := KeepX.store (o := q) hg1 (.inl rfl) (.pointer none)
        have hb1 : Below Z w (wr.setCell ⟨g, q, none⟩ (.pointer none)) := hbl.setCell (HT.out.row.lt g rfl).1 _
        have hfree1 : Fi.Free (S.set q none) := ⟨q, by rw [Fi.set_at (by rw [hTS.len]; exact hjm), if_pos rfl]⟩
        have hkey1 : ∀ (i j b : Nat) (k v : Int) (b' : Nat) (v' : Int), (S.set q none)[i]? = some (some (b, k, v)) → (S.set q none)[j]? = some (some (b', k, v')) → i = j := by
          intro i1 j1 b' k' v' b'' v'' x1 x2
          rw [Fi.set_at (by rw [hTS.len]; exact hjm)] at x1 x2
          by_cases e1 : q = i1
          · rw [if_pos e1] at x1; cases x1
          · by_cases e2 : q = j1
            · rw [if_pos e2] at x2; cases x2
            · rw [if_neg e1] at x1
              rw [if_neg e2] at x2
              exact hD.key _ _ _ _ _ _ _ x1 x2
        have HCS := Lib.hid (fset_any F hF Z g m j b1 (S.set q none) k1 v1 (wr.setCell ⟨g, q, none⟩ (.pointer none)) HM.out.1 HM.out.2 htp hfree1 (by simpa using Nat.le_trans hZ hbl.size) hkey1 (hpk.1.other hgb _) hpk.2)
        have HE := Lib.hid he
        have HKB := Lib.hid (And.intro (hkp.trans hk1) hb1)
        clear he hpk htp hg1 hgb hk1 hb1 hfree1 hkey1 hD hTS hkp hbl hq
        go_wp2_with fail
        refine HCS.out.mono ?_
        rintro e w2 ⟨rfl, ⟨s, hfs, hor⟩, hk2, hb2, _⟩
        have hst := HDS.out.step hlL2 (by rw [HQ.out]; exact HE.out) (by rw [HQ.out]; exact hfs)
        rw [HQ.out] at hst
        have htab : Tabl w2 Z g m ((S.set q none).set s (some (b1, k1, v1))) := by
          rcases hor with ⟨_, h⟩ | ⟨b', v', h, _⟩
          · exact h
          · rw [hst.1] at h; cases h
        have HST := Lib.hid hst.2
        have HTB := Lib.hid htab
        have HKK := Lib.hid (And.intro (HKB.out.1.trans hk2) (HKB.out.2.trans hb2))
        have hw : Fi.wr m q 1 = Fi.wr m i (l + 1) := by
          rw [← HQ.out]
          exact Fi.wr_add him (by have := HDS.out.Lm; omega)
        have HW := Lib.hid hw
        clear hfs hor hk2 hb2 hst htab hw
        cases gk with
        | zero => omega
        | succ gk =>
          go_wp2_with fail
          go_roundg gk
          case measure => omega
          case rel => exact ⟨l + 1, _, by rw [HW.out], HST.out, by omega, HTB.out, HKK.out.1, HKK.out.2⟩
      · have hll : l = L := by have := hD.lL; omega
        have he : S[q]? = some none := by rw [← hq, hll]; exact hD.end_
        have hc1 : wr.cell? ⟨g, q, none⟩ = some (.pointer none) := hTS.at he
        subst hll
        clear he hD hTS hkp hbl hq
        go_wp2_with fail
        go_ret
        exact .inr ⟨S, v, rfl, HLK.out, HDS.out.done, HTS.out, HDS.out.has, HDS.out.occ_, HKP.out, HBL.out⟩
end Go.Proofs.Ytidekgmpbcnfmaa
