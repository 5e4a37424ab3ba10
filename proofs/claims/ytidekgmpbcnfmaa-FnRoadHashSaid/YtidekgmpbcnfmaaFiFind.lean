/- Walks of package fastinteger: find, get, exists. -/
import Derived.Test.YtidekgmpbcnfmaaFiHash
import Derived.WalkLawsBesides
namespace Go.Proofs.Ytidekgmpbcnfmaa
set_option linter.unusedVariables false
open Go.RowKit

def pv : Option Fi.Ent → Value
  | none => .pointer none
  | some e => .pointer (some ⟨e.1, 0, none⟩)
/-- a table of packets: the row of pointers in block g, and the packets; all blocks lie from Z on -/
structure Tabl (w : World) (Z g m : Nat) (T : Fi.Tb) : Prop where
  row : w.ownsRow Z 85 1 (.slice (some ⟨g, 0, none⟩) m m) m (T.map pv)
  pk : ∀ e : Fi.Ent, Fi.Has T e → Blk w e.1 87 #[.int .u64 e.2.1, .int .u64 e.2.2] ∧ Z ≤ e.1
theorem Tabl.len {w : World} {Z g m : Nat} {T : Fi.Tb} (h : Tabl w Z g m T) : T.length = m := by
  have := h.row.1
  simpa using this
theorem Tabl.at {w : World} {Z g m : Nat} {T : Fi.Tb} (h : Tabl w Z g m T) {i : Nat} {o : Option Fi.Ent} (hi : T[i]? = some o) : w.cell? ⟨g, i, none⟩ = some (pv o) := by
  have hl := h.len
  have hlt : i < T.length := (List.getElem?_eq_some_iff.1 hi).1
  have h1 := h.row.cellAt i (by omega)
  rw [h1, List.getElem?_map, hi]; rfl
theorem Tabl.below {w w' : World} {Z g m : Nat} {T : Fi.Tb} (h : Tabl w Z g m T) (hb : Below w.heap.size w w') : Tabl w' Z g m T := by
  refine ⟨⟨h.row.1, ?_⟩, fun e he => ⟨(h.pk e he).1.below hb (h.pk e he).1.lt, (h.pk e he).2⟩⟩
  have hl := h.row.lt
  rcases h.row.2 with h0 | ⟨g', cap, cur, e, hbg, hg, r⟩
  · exact .inl h0
  · refine .inr ⟨g', cap, cur, e, hbg, (hb.block g' (hl g' (by rw [e]; rfl)).2).trans hg, r⟩
/-- how a hash falls on 2 to the j places -/
def HomeIs (F : Int → Nat) : Prop := ∀ k : Int, ∃ x : Int, (∀ w : World, Calls Try.prog 53 #[.int .u64 k] w fun e w' => e = .returned (.int .u64 x) ∧ w = w') ∧
    ∀ j, j ≤ 32 → bits .and .u64 x (((2 ^ j : Nat) : Int) - 1) = ((F k % 2 ^ j : Nat) : Int)
def home (F : Int → Nat) (m : Nat) (k : Int) : Nat := F k % m
theorem home_lt {F : Int → Nat} {m : Nat} (hm : 0 < m) (k : Int) : home F m k < m := Nat.mod_lt _ hm
theorem mask_next {j i : Nat} (hj : j ≤ 32) (hi : i < 2 ^ j) : bits .and .u64 ((i : Int) + 1) (((2 ^ j : Nat) : Int) - 1) = ((Fi.wr (2 ^ j) i 1 : Nat) : Int) := by
  have h2 : 2 ^ j ≤ 2 ^ 32 := Nat.pow_le_pow_right (by decide) hj
  have h := u64_and_nat (i + 1) j hj (by omega)
  rw [show ((i + 1 : Nat) : Int) = (i : Int) + 1 by omega] at h
  rw [h]
  congr 1
  unfold Fi.wr
  split
  · exact Nat.mod_eq_of_lt (by omega)
  · have : i + 1 = 2 ^ j := by omega
    rw [this]; simp

def FFindLoop (F : Int → Nat) (m : Nat) (T : Fi.Tb) (key : Int) (w : World) (k : Nat) (idx : Value) (wr : World) : Prop :=
  ∃ d i : Nat, idx = .int .u64 (i : Int) ∧ d + k = m ∧ d < m ∧ i = Fi.wr m (home F m key) d ∧ (∀ d', d' < d → ∃ b k' v', T[Fi.wr m (home F m key) d']? = some (some (b, k', v')) ∧ k' ≠ key) ∧ wr = w
def FindPost (F : Int → Nat) (m : Nat) (T : Fi.Tb) (key : Int) (w : World) (e : Ending) (w' : World) : Prop :=
  ∃ i : Nat, e = .returned (.int .u64 (i : Int)) ∧ Fi.Found m (home F m) T key i ∧ w = w'

set_option maxRecDepth 100000 in
set_option maxHeartbeats 2000000 in
theorem find_any (F : Int → Nat) (hF : HomeIs F) (Z g m j : Nat) (T : Fi.Tb) (key : Int) (w : World) (hm : m = 2 ^ j) (hj : j ≤ 12) (hT : Tabl w Z g m T) (hfr : Fi.Free T) :
    Calls Try.prog 44 #[.slice (some ⟨g, 0, none⟩) m m, .int .u64 key] w (FindPost F m T key w) := by
  obtain ⟨x, hx, hmask⟩ := hF key
  have h2 : 2 ^ j ≤ 2 ^ 12 := Nat.pow_le_pow_right (by decide) hj
  have h1 : 0 < 2 ^ j := Nat.pow_pos (by decide)
  have hm0 : 0 < m := by omega
  have hm1 : (1 : Int) ≤ (m : Int) := by omega
  have hm9 : (m : Int) ≤ 4096 := by omega
  have hk := hmask j (by omega)
  have hnext := fun (i : Nat) (hi : i < m) => @mask_next j i (by omega) (by omega)
  rw [← hm] at hk hnext
  have hhome : home F m key < m := home_lt hm0 key
  rw [show F key % m = home F m key from rfl] at hk
  have HX := Lib.hid hx
  have HT := Lib.hid hT
  have HF := Lib.hid hfr
  have HN := Lib.hid hnext
  have HH := Lib.hid hhome
  have HL := Lib.hid hT.len
  clear hx hmask h2 h1 hT hfr hnext hm hj
  go_enter Try.func44, Try.ntmps44
  go_wp2_with fail
  refine (HX.out _).mono ?_
  rintro e w1 ⟨rfl, rfl⟩
  go_wp2_with fail
  obtain ⟨H0, hH0⟩ : ∃ H0, home F m key = H0 := ⟨_, rfl⟩
  have HH0 := Lib.hid hH0
  rw [hH0]
  clear hk hH0 hhome
  go_loopg [6] m (fun k idx wr => FFindLoop F m T key w k idx wr)
  case atStart => exact ⟨0, H0, rfl, by omega, hm0, by rw [Fi.wr_zero HH.out]; exact HH0.out.symm, fun d' hd => absurd hd (Nat.not_lt_zero _), rfl⟩
  case round =>
    obtain ⟨d, i, rfl, hdk, hdm, hi, hpath, rfl⟩ := hrel
    have him : i < m := by rw [hi]; exact Fi.wr_lt HH.out hdm
    have hiI : (i : Int) < (m : Int) := by omega
    have hi0 : (0 : Int) ≤ (i : Int) := by omega
    have HI := Lib.hid hi
    have HP := Lib.hid hpath
    have hnx := HN.out i him
    obtain ⟨o, ho⟩ : ∃ o, T[i]? = some o := ⟨T[i]'(by rw [HL.out]; exact him), by rw [List.getElem?_eq_getElem]⟩
    have hc0 := HT.out.at ho
    have HO := Lib.hid ho
    clear hi hpath ho
    cases o with
    | none =>
      have hc : wr.cell? ⟨g, i, none⟩ = some (.pointer none) := hc0
      clear hc0
      go_wp2_with fail
      go_ret
      exact ⟨i, rfl, ⟨d, hdm, HI.out.symm, HP.out, .inl HO.out⟩, rfl⟩
    | some e =>
      obtain ⟨b, k1, v1⟩ := e
      have hc : wr.cell? ⟨g, i, none⟩ = some (.pointer (some ⟨b, 0, none⟩)) := hc0
      clear hc0
      have hblk := (HT.out.pk (b, k1, v1) ⟨i, HO.out⟩).1
      have q0 : wr.cell? ⟨b, 0, none⟩ = some (.int .u64 k1) := hblk.cell 0 rfl
      clear hblk
      by_cases hkk : k1 = key
      · subst hkk
        have hb : (k1 != k1) = false := by simp
        go_wp2_with fail
        go_ret
        exact ⟨i, rfl, ⟨d, hdm, HI.out.symm, HP.out, .inr ⟨b, v1, HO.out⟩⟩, rfl⟩
      · have hb : (k1 != key) = true := by simpa using hkk
        have hd1 : d + 1 < m := by
          rcases Nat.lt_or_ge (d + 1) m with h1 | h1
          · exact h1
          · exfalso
            obtain ⟨f, hf⟩ := HF.out
            have hfm : f < m := by
              have := (List.getElem?_eq_some_iff.1 hf).1
              rwa [HL.out] at this
            obtain ⟨df, g1, g2⟩ := Fi.wr_surj HH.out hfm
            rcases Nat.lt_or_ge df d with h3 | h3
            · obtain ⟨x1, x2, x3, hx, _⟩ := HP.out df h3
              rw [g2, hf] at hx; cases hx
            · have : df = d := by omega
              rw [this, ← HI.out] at g2
              rw [← g2, HO.out] at hf; cases hf
        have HKK := Lib.hid hkk
        have hw1 : Fi.wr m i 1 = Fi.wr m (home F m key) (d + 1) := by rw [HI.out]; exact Fi.wr_add HH.out hd1
        have HW1 := Lib.hid hw1
        clear hkk hw1
        go_wp2_with fail
        cases gk with
        | zero => omega
        | succ k =>
          go_roundg k
          case measure => omega
          case rel =>
            refine ⟨d + 1, Fi.wr m i 1, rfl, by omega, hd1, HW1.out, fun d' hd' => ?_, rfl⟩
            rcases Nat.lt_or_ge d' d with h3 | h3
            · exact HP.out d' h3
            · have : d' = d := by omega
              subst this
              rw [← HI.out]
              exact ⟨b, k1, v1, HO.out, HKK.out⟩
end Go.Proofs.Ytidekgmpbcnfmaa
