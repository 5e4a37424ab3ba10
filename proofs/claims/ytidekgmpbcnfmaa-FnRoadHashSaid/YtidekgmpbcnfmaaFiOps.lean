/- Walks of (*FastIntegerHashMap).Get, Exists, Delete, Len, Cap, and New. -/
import Derived.Test.YtidekgmpbcnfmaaFiMap
namespace Go.Proofs.Ytidekgmpbcnfmaa
set_option linter.unusedVariables false
open Go.RowKit

set_option maxHeartbeats 1000000 in
theorem mget_any (F : Int → Nat) (hF : HomeIs F) (Z s g m j c : Nat) (T : Fi.Tb) (key : Int) (w : World) (hM : MapAt w F Z s g m j c T) :
    Calls Try.prog 20 #[.pointer (some ⟨s, 0, none⟩), .int .u64 key] w (GetPost T key w) := by
  have c1 : w.cell? ⟨s, 1, none⟩ = some (.slice (some ⟨g, 0, none⟩) m m) := hM.blk.cell 1 rfl
  have HC := Lib.hid (fget_any F hF Z g m j T key w hM.hm (by have := hM.hj; omega) hM.tab hM.ok hM.free)
  clear hM
  go_enter Try.func20, Try.ntmps20
  go_wp2_with fail
  refine HC.out.mono ?_
  rintro e w1 ⟨o, rfl, hl, rfl⟩
  have HL := Lib.hid hl
  clear hl
  go_wp2_with fail
  go_ret2
  exact ⟨o, rfl, HL.out, rfl⟩
set_option maxHeartbeats 1000000 in
theorem mexists_any (F : Int → Nat) (hF : HomeIs F) (Z s g m j c : Nat) (T : Fi.Tb) (key : Int) (w : World) (hM : MapAt w F Z s g m j c T) :
    Calls Try.prog 21 #[.pointer (some ⟨s, 0, none⟩), .int .u64 key] w (ExPost T key w) := by
  have c1 : w.cell? ⟨s, 1, none⟩ = some (.slice (some ⟨g, 0, none⟩) m m) := hM.blk.cell 1 rfl
  have HC := Lib.hid (fexists_any F hF Z g m j T key w hM.hm (by have := hM.hj; omega) hM.tab hM.ok hM.free)
  clear hM
  go_enter Try.func21, Try.ntmps21
  go_wp2_with fail
  refine HC.out.mono ?_
  rintro e w1 ⟨o, rfl, hl, rfl⟩
  have HL := Lib.hid hl
  clear hl
  go_wp2_with fail
  go_ret
  exact ⟨o, rfl, HL.out, rfl⟩
set_option maxHeartbeats 1000000 in
theorem mlen_any (F : Int → Nat) (Z s g m j c : Nat) (T : Fi.Tb) (w : World) (hM : MapAt w F Z s g m j c T) :
    Calls Try.prog 23 #[.pointer (some ⟨s, 0, none⟩)] w fun e w' => e = .returned (.int .u64 (c : Int)) ∧ w = w' := by
  have c0 : w.cell? ⟨s, 0, none⟩ = some (.int .u64 (c : Int)) := hM.blk.cell 0 rfl
  clear hM
  go_enter Try.func23, Try.ntmps23
  go_wp2_with fail
  go_ret
  exact ⟨rfl, rfl⟩
set_option maxHeartbeats 1000000 in
theorem mcap_any (F : Int → Nat) (Z s g m j c : Nat) (T : Fi.Tb) (w : World) (hM : MapAt w F Z s g m j c T) :
    Calls Try.prog 24 #[.pointer (some ⟨s, 0, none⟩)] w fun e w' => e = .returned (.int .u64 (m : Int)) ∧ w = w' := by
  have c1 : w.cell? ⟨s, 1, none⟩ = some (.slice (some ⟨g, 0, none⟩) m m) := hM.blk.cell 1 rfl
  have h2 : 2 ^ j ≤ 2 ^ 10 := Nat.pow_le_pow_right (by decide) hM.hj
  have hm9 : (m : Int) ≤ 1024 := by have := hM.hm; omega
  clear hM h2
  go_enter Try.func24, Try.ntmps24
  go_wp2_with fail
  go_ret
  exact ⟨rfl, rfl⟩

def DelM (F : Int → Nat) (Z s c : Nat) (T : Fi.Tb) (key : Int) (w : World) (e : Ending) (w' : World) : Prop :=
  ∃ g m j c' T' o, e = .returned (.tuple #[]) ∧ MapAt w' F Z s g m j c' T' ∧ (∀ k v, Kv T' k v ↔ k ≠ key ∧ Kv T k v) ∧ Look T key o ∧ c' + (if o.isSome then 1 else 0) = c ∧ KeepY s w w' ∧ Below Z w w'
set_option maxHeartbeats 2000000 in
theorem mdelete_any (F : Int → Nat) (hF : HomeIs F) (Z s g m j c : Nat) (T : Fi.Tb) (key : Int) (w : World) (hM : MapAt w F Z s g m j c T) (hZ : Z ≤ w.heap.size) (hc : c ≤ 1000) :
    Calls Try.prog 22 #[.pointer (some ⟨s, 0, none⟩), .int .u64 key] w (DelM F Z s c T key w) := by
  have c1 : w.cell? ⟨s, 1, none⟩ = some (.slice (some ⟨g, 0, none⟩) m m) := hM.blk.cell 1 rfl
  have HC := Lib.hid (fdelete_any F hF Z g m j T key w hM.hm (by have := hM.hj; omega) hM.tab hM.ok hM.free hZ)
  have HM := Lib.hid hM
  clear hM
  go_enter Try.func22, Try.ntmps22
  go_wp2_with fail
  refine HC.out.mono ?_
  rintro e w1 (⟨rfl, hl, rfl⟩ | ⟨S, v0, rfl, hlk, hok, hT, hhas, hocc, hk, hb⟩)
  · have HL := Lib.hid hl
    clear hl
    go_wp2_with fail
    go_end0
    refine ⟨g, m, j, c, T, none, rfl, HM.out, fun k v => ⟨fun h => ⟨?_, h⟩, fun h => h.2⟩, HL.out, rfl, ⟨Nat.le_refl _, fun _ _ _ _ _ _ _ h => h⟩, Below.refl _ _⟩
    rintro rfl
    obtain ⟨b, hb⟩ := h
    exact HL.out b v hb
  · have hsb : Blk w1 s 82 #[.int .u64 (c : Int), .slice (some ⟨g, 0, none⟩) m m] := hk.2 _ _ _ _ (by decide) (by decide) HM.out.blk
    have e0 : w1.cell? ⟨s, 0, none⟩ = some (.int .u64 (c : Int)) := hsb.cell 0 rfl
    have f0 := hsb.free 0
    have hc1 : 1 ≤ c := by have := HM.out.occ; omega
    obtain ⟨c', hc'⟩ : ∃ c', c = c' + 1 := ⟨c - 1, by omega⟩
    subst hc'
    have hci : (0 : Int) ≤ (c' : Int) := by omega
    have hci9 : (c' : Int) ≤ 1000 := by omega
    have HSB := Lib.hid hsb
    have HOK := Lib.hid hok
    have HT := Lib.hid hT
    have HH := Lib.hid hhas
    have HO := Lib.hid hocc
    have HK := Lib.hid (And.intro hk hb)
    have HLK := Lib.hid hlk
    clear hlk hok hT hhas hocc hk hb hsb
    go_wp2_with fail
    go_end0
    have hne : s ≠ g := HT.out.neRow HSB.out (by decide)
    refine ⟨g, m, j, c', S, some v0, rfl, ⟨by simpa using HSB.out.set 0 (.int .u64 (c' : Int)), ⟨?_, fun e he => ⟨(HT.out.pk e he).1.other (fun e1 => ?_) _, (HT.out.pk e he).2⟩⟩, HOK.out, HM.out.hm, HM.out.hj, by have := HO.out; have := HM.out.occ; omega, by have := HM.out.full; omega, HM.out.zs⟩, fun k v => ?_, HLK.out, rfl, (KeepY.of HK.out.1).set _, HK.out.2.setCell HM.out.zs _⟩
    · exact HT.out.row.kept (row := some s) ⟨rfl, rfl, rfl, by simp, fun k _ hk => Below.heap_setCell w1 _ _ k (fun e => hk (by rw [e]))⟩ (.inr (by simp [Value.ownBlock]; exact fun e => hne e.symm))
    · have h1 := (HT.out.pk e he).1
      have h2 := HSB.out
      simp only at e1
      rw [e1] at h1
      unfold Blk at h1 h2
      rw [h1] at h2
      injection h2 with h2
      injection h2 with _ h2
      cases h2
    · unfold Kv
      constructor
      · rintro ⟨b, hb⟩
        have := (HH.out _).1 hb
        exact ⟨this.2, b, this.1⟩
      · rintro ⟨h1, b, hb⟩
        exact ⟨b, (HH.out _).2 ⟨hb, h1⟩⟩

def NewM (F : Int → Nat) (w : World) (e : Ending) (w' : World) : Prop :=
  ∃ s g m j T, e = .returned (.pointer (some ⟨s, 0, none⟩)) ∧ MapAt w' F w.heap.size s g m j 0 T ∧ (∀ k v, ¬ Kv T k v) ∧ Below w.heap.size w w'
set_option maxHeartbeats 2000000 in
theorem mnew_core (F : Int → Nat) (n j : Nat) (w : World) (hin : Value) (hint : hin = .int .u64 (n : Int) ∧ 1 ≤ n ∨ hin = .int .u64 0 ∧ n = 16) (hn : n ≤ 1025) (hj : j ≤ 10) (hr : rup (n : Int) = ((2 ^ j : Nat) : Int)) :
    Calls Try.prog 18 #[hin] w (NewM F w) := by
  have hn1 : 1 ≤ n := by rcases hint with h | h <;> omega
  have HRC := Lib.hid (roundup_any n w hn1 hn)
  rw [hr] at HRC
  have h2 : 2 ^ j ≤ 2 ^ 10 := Nat.pow_le_pow_right (by decide) hj
  have h1 : 0 < 2 ^ j := Nat.pow_pos (by decide)
  obtain ⟨m, hm⟩ : ∃ m, m = 2 ^ j := ⟨_, rfl⟩
  rw [← hm] at HRC h1 h2
  have HM := Lib.hid hm
  have hm9 : m ≤ 1024 := by omega
  have hfin : ∀ w1 : World, w1.ownsRow w.heap.size 85 1 (.slice (some ⟨w.heap.size, 0, none⟩) m m) m (List.replicate m (.pointer none)) → Below w.heap.size w w1 →
      MapAt (w1.alloc (.cells #[.int .u64 0, .slice (some ⟨w.heap.size, 0, none⟩) m m] 82)) F w.heap.size w1.heap.size w.heap.size m j 0 (List.replicate m none) := by
    intro w1 ho hb
    refine ⟨Blk.new w1 _ _, ⟨by simpa [pv] using ho.alloc _, ?_⟩, ⟨by simp, fun k => home_lt h1 k, ?_, ?_⟩, hm, hj, by simp [Fi.occ, List.filterMap_replicate_of_none], by omega, hb.size⟩
    · rintro e ⟨i, hi⟩; simp [List.getElem?_replicate] at hi
    · intro i j b k v b' v' hi; simp [List.getElem?_replicate] at hi
    · intro i b k v hi; simp [List.getElem?_replicate] at hi
  have hno : ∀ k v, ¬ Kv (List.replicate m none) k v := by
    rintro k v ⟨b, i, hi⟩; simp [List.getElem?_replicate] at hi
  have HFIN := Lib.hid hfin
  have HNO := Lib.hid hno
  clear hm hfin hno hr h2
  rcases hint with ⟨rfl, h0⟩ | ⟨rfl, rfl⟩
  · have hz : ((n : Int) == 0) = false := by simp; omega
    go_enter Try.func18, Try.ntmps18
    go_wp2_with fail
    refine HRC.out.mono ?_
    rintro e w' ⟨rfl, rfl⟩
    go_wp2_with (at_make; refine wpList_make1 rfl _ _ 80 rfl w.heap.size 85 (.pointer none) 8 Try.underlying80 info_pp rfl _ _ _ _ m rfl rfl rfl rfl (by omega) (by unfold maxLen; omega) (Nat.le_refl _) ?_; intro w1 hown1 hb1 hs1; have HO1 := Lib.hid hown1; have HB1 := Lib.hid hb1; clear hown1 hb1 hs1)
    go_ret
    exact ⟨_, _, _, _, _, rfl, HFIN.out _ HO1.out HB1.out, HNO.out, HB1.out.alloc HB1.out.size _⟩
  · go_enter Try.func18, Try.ntmps18
    go_wp2_with fail
    refine HRC.out.mono ?_
    rintro e w' ⟨rfl, rfl⟩
    go_wp2_with (at_make; refine wpList_make1 rfl _ _ 80 rfl w.heap.size 85 (.pointer none) 8 Try.underlying80 info_pp rfl _ _ _ _ m rfl rfl rfl rfl (by omega) (by unfold maxLen; omega) (Nat.le_refl _) ?_; intro w1 hown1 hb1 hs1; have HO1 := Lib.hid hown1; have HB1 := Lib.hid hb1; clear hown1 hb1 hs1)
    go_ret
    exact ⟨_, _, _, _, _, rfl, HFIN.out _ HO1.out HB1.out, HNO.out, HB1.out.alloc HB1.out.size _⟩
theorem mnew_any (F : Int → Nat) (n : Nat) (w : World) (hn : n ≤ 601) :
    Calls Try.prog 18 #[.int .u64 (n : Int)] w (NewM F w) := by
  have hle : ∀ j : Nat, 2 ^ j < 2 * 601 → j ≤ 10 := fun j h => by
    rcases Nat.lt_or_ge 10 j with h1 | h1
    · have := Nat.pow_le_pow_right (n := 2) (by decide) h1
      omega
    · exact h1
  by_cases h0 : n = 0
  · subst h0
    obtain ⟨j, _, h4, _, h6⟩ := rup_pow 16 (by omega) (by omega)
    exact mnew_core F 16 j w _ (.inr ⟨rfl, rfl⟩) (by omega) (hle j (by omega)) h4
  · obtain ⟨j, _, h4, _, h6⟩ := rup_pow n (by omega) (by omega)
    exact mnew_core F n j w _ (.inl ⟨rfl, by omega⟩) (by omega) (hle j (by omega)) h4
end Go.Proofs.Ytidekgmpbcnfmaa
