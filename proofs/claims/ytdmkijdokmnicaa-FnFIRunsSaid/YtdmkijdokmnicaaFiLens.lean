/- spec.FILens. -/
import Derived.Test.YtdmkijdokmnicaaFiSpec
import Derived.Test.YtdmkijdokmnicaaFiAns
namespace Go.Proofs.Ytdmkijdokmnicaa
set_option linter.unusedVariables false
open Go.RowKit

theorem info_step2 : (Try.prog.info? 27).map (fun i => (i.zero, i.size, i.bytes)) = some (some (.agg #[.int .i64 0, .int .u64 0, .int .u64 0]), 3, 24) := by kernel_rfl
theorem info_int2 : (Try.prog.info? 3).map (fun i => (i.zero, i.size, i.bytes)) = some (some (.int .i64 0), 1, 8) := by kernel_rfl
def lenAt (xs : List FStep) (i : Nat) : Int := ((fiSt (xs.take (i + 1))).1.length : Int)
def lensTo (xs : List FStep) (i : Nat) : List Value := (List.range i).map fun j => Value.int .i64 (lenAt xs j)
theorem lensTo_succ (xs : List FStep) (i : Nat) : lensTo xs (i + 1) = lensTo xs i ++ [.int .i64 (lenAt xs i)] := by simp [lensTo, List.range_succ]
def LensLoop (xs : List FStep) (n : Nat) (w : World) (k : Nat) (out idx : Value) (wr : World) : Prop :=
  ∃ (i : Nat) (p : Option Addr) (cap : Nat), idx = .int .i64 (i : Int) ∧ out = .slice p i cap ∧ i + k = n ∧ wr.ownsRow w.heap.size 3 1 (.slice p i cap) i (lensTo xs i) ∧ Below w.heap.size w wr
theorem step3 (L : List FStep) : ∀ r ∈ L.map stepRow, r.length = 3 := fun r hr => by
  obtain ⟨p, _, rfl⟩ := List.mem_map.1 hr
  rfl
theorem step_one (L : List FStep) : ∀ u ∈ (L.map stepRow).flatten, u.oneCell' = true := fun u hu => by
  obtain ⟨r, hr, hu⟩ := List.mem_flatten.1 hu
  obtain ⟨q, hq, rfl⟩ := List.mem_map.1 hr
  simp only [stepRow, List.mem_cons, List.not_mem_nil, or_false] at hu
  rcases hu with rfl | rfl | rfl <;> rfl
theorem spAt_last (xs : List FStep) (i : Nat) (h : i < xs.length) : spAt (xs.take (i + 1) ++ [⟨5, 0, 0⟩]) (i + 1) = (lenAt xs i, false) := by
  have hl : (xs.take (i + 1)).length = i + 1 := by rw [List.length_take]; omega
  have e1 : (xs.take (i + 1) ++ [(⟨5, 0, 0⟩ : FStep)]).take (i + 1) = xs.take (i + 1) := by
    rw [List.take_append_of_le_length (by omega), List.take_take, Nat.min_self]
  have e2 : fstepAt (xs.take (i + 1) ++ [⟨5, 0, 0⟩]) (i + 1) = ⟨5, 0, 0⟩ := by
    unfold fstepAt
    rw [List.getD_eq_getElem?_getD, List.getElem?_append_right (by omega), hl]
    simp
  unfold spAt
  rw [e1, e2]
  simp [spAns, lenAt]

set_option maxRecDepth 100000 in
set_option maxHeartbeats 8000000 in
theorem filens_any (u : Value) (xs : List FStep) (n : Nat) (w : World) (hu : Rw 3 w u (xs.map stepRow)) (hn : xs.length = n) (hn9 : n ≤ 1000) :
    Calls Try.prog 9 #[u] w fun e w' => ∃ v', e = .returned v' ∧ w'.ownsRow w.heap.size 3 1 v' n (lensTo xs n) ∧ Below w.heap.size w w' := by
  have HU := Lib.hid hu
  obtain ⟨ua, un, uc, rfl, hul, huc, hum, hur⟩ := hu
  rw [List.length_map, hn] at hul
  subst hul
  have HUR := Lib.hid hur
  have HN := Lib.hid hn
  clear hur hn
  have hni : (n : Int) ≤ 2000 := by omega
  go_enter Try.func9, Try.ntmps9
  go_wp2_with fail
  go_loopg [3, 4, 5, 6] n (fun k out idx _ _ wr => LensLoop xs n w k out idx wr)
  case atStart => exact ⟨0, none, 0, rfl, rfl, by omega, World.ownsRow_nil _ _ _ _, Below.refl _ _⟩
  case round =>
    obtain ⟨i, p, cap, rfl, rfl, hik, hown, hbl⟩ := hrel
    have HO := Lib.hid hown
    have HBL := Lib.hid hbl
    have hsz := hbl.size
    clear hown
    cases gk with
    | zero =>
      obtain rfl : i = n := by omega
      have hd : decide ((i : Int) < (i : Int)) = false := by simp
      clear hbl
      go_wp2_with fail
      go_ret
      exact ⟨_, rfl, HO.out, HBL.out⟩
    | succ k =>
      have hi : i < n := by omega
      obtain ⟨b1, o1, rfl, _⟩ := HUR.out (by omega)
      have hii : (i : Int) < (n : Int) := by omega
      have hi0 : (0 : Int) ≤ (i : Int) := by omega
      have hrw : ∀ wx, Below wr.heap.size wr wx → Rw 3 wx (.slice (some ⟨b1, o1, none⟩) (i + 1) uc) ((xs.take (i + 1)).map stepRow) := fun wx hb => by
        have h1 := (HU.out.below rfl (hbl.trans (hb.mono hsz))).part 0 (i + 1) uc (Nat.zero_le _) (by omega) (by omega) hum
        simpa [List.map_take] using h1
      have HRW := Lib.hid hrw
      clear hrw hbl
      obtain ⟨i1, hi1⟩ : ∃ i1, i1 = i + 1 := ⟨_, rfl⟩
      have HI1 := Lib.hid hi1
      rw [← hi1] at HRW
      have hw1 : IntKind.i64.wrap ((i : Int) + 1) = (i1 : Int) := by rw [hi1]; unfold IntKind.wrap; simp [IntKind.bits, IntKind.signed]; omega
      have hi1n : (i1 : Int) ≤ (n : Int) := by omega
      have hi1c : i1 ≤ uc := by omega
      have hi10 : (0 : Int) ≤ (i1 : Int) := by omega
      clear hi1
      have hta : ((xs.take i1).map stepRow).length = i1 := by rw [List.length_map, List.length_take, HN.out]; have := HI1.out; omega
      have ht1 : 0 + ((xs.take i1).map stepRow).length ≤ maxLen := by rw [hta]; unfold maxLen; omega
      have ht2 : (0 + ((xs.take i1).map stepRow).length) * 24 ≤ 140737488355328 := by rw [hta]; omega
      have ht3 : 0 + ((xs.take i1).map stepRow).length + 1 ≤ maxLen := by rw [hta]; unfold maxLen; omega
      have ht4 : (0 + ((xs.take i1).map stepRow).length + 1) * 24 ≤ 140737488355328 := by rw [hta]; omega
      have hba : Below wr.heap.size wr (wr.alloc (.cells #[] 27)) := (Below.refl _ _).alloc (Nat.le_refl _) _
      have HBA := Lib.hid hba
      have HTA := Lib.hid hta
      have HT1 := Lib.hid ht1
      have HT2 := Lib.hid ht2
      have HT3 := Lib.hid ht3
      have HT4 := Lib.hid ht4
      clear hba hta ht1 ht2 ht3 ht4
      go_wp2_with (first
        | (at_builtin
           refine wpList_apRw rfl (.tmp 13) (.tmp 17) 25 rfl wr.heap.size 3 27 (.agg #[.int .i64 0, .int .u64 0, .int .u64 0]) 24 Try.underlying25 info_step2 rfl (by decide) (.slice (some ⟨wr.heap.size, 0, none⟩) 0 0) 0 [] rfl (World.ownsRow_lit wr #[] 0 (Nat.le_refl _) (Nat.zero_le _) rfl) (.slice (some ⟨b1, o1, none⟩) i1 uc) ((xs.take i1).map stepRow) rfl (HRW.out _ HBA.out) (step3 _) (step_one _) HT1.out HT2.out HBA.out.size ?_
           intro p9 m9 c9 w9 hown9 hg9 hb9
           have hs9 : wr.heap.size ≤ w9.heap.size := Nat.le_trans HBA.out.size hb9.size
           have HB9 := Lib.hid (HBA.out.trans hb9)
           have HO9 := Lib.hid hown9
           clear hown9 hg9 hb9)
        | (at_builtin
           refine wpList_appendS rfl (.tmp 18) (.tmp 20) 25 rfl wr.heap.size 3 27 (.agg #[.int .i64 0, .int .u64 0, .int .u64 0]) 24 Try.underlying25 info_step2 rfl (by decide) _ _ _ rfl HO9.out #[.int .i64 5, .int .u64 0, .int .u64 0] rfl rfl (by simp [Value.oneCell']) HT3.out HT4.out hs9 ?_
           intro g10 c10 w10 hown10 hg10 hb10
           have HB10 := Lib.hid (HB9.out.trans hb10)
           have HO10 := Lib.hid hown10
           clear hown10 hg10 hb10)
        | fail)
      have hmin : min i1 xs.length = i1 := by rw [HN.out]; omega
      rw [hmin]
      have hR : Rw 3 w10 (.slice (some ⟨g10, 0, none⟩) (i1 + 1) c10) ((xs.take i1 ++ [(⟨5, 0, 0⟩ : FStep)]).map stepRow) := by
        have h1 := HO10.out
        rw [HTA.out, Nat.zero_add] at h1
        refine Rw.of_owns (rows := (xs.take i1 ++ [(⟨5, 0, 0⟩ : FStep)]).map stepRow) (step3 _) (by decide) (B := wr.heap.size) (e := 27) (n := i1 + 1) ?_
        simpa [stepRow] using h1
      refine (fispec_any _ (xs.take i1 ++ [(⟨5, 0, 0⟩ : FStep)]) (i1 + 1) w10 hR (by rw [List.length_append, List.length_take, HN.out]; simp; omega) (by omega)).mono ?_
      rintro e w11 ⟨v', rfl, hrw, hb11⟩
      obtain ⟨gb, go, gc, rfl, hgm, hgc⟩ := hrw.answers (n := i1 + 1) (by simp [spAll]) (by omega)
      have hla : ansAt (spAll (xs.take i1 ++ [(⟨5, 0, 0⟩ : FStep)]) (i1 + 1)) i1 = (lenAt xs i, false) := by
        rw [spAll_succ]
        unfold ansAt
        rw [List.getD_eq_getElem?_getD, List.getElem?_append_right (by simp [spAll])]
        have := spAt_last xs i (by rw [HN.out]; omega)
        rw [HI1.out]
        simp [spAll, this]
      have hc := (hgc i1 (by omega)).1
      rw [hla] at hc
      have hln : (fiSt (xs.take (i + 1))).1.length ≤ i + 1 := len_st xs (i + 1) (by rw [HN.out]; omega)
      have hll : lenAt xs i = (((fiSt (xs.take (i + 1))).1.length : Nat) : Int) := rfl
      obtain ⟨lv, hlv⟩ : ∃ lv, (fiSt (xs.take (i + 1))).1.length = lv := ⟨_, rfl⟩
      rw [hlv] at hln hll
      simp only at hc
      rw [hll] at hc
      have hlvi : (lv : Int) ≤ 2000 := by omega
      have HLL := Lib.hid hll
      have HB11 := Lib.hid ((HB10.out.mono (Nat.le_refl _)).trans (hb11.mono HB10.out.size))
      have HO11 := Lib.hid (row_blw HO.out HB11.out)
      have hs11 : w.heap.size ≤ w11.heap.size := Nat.le_trans hsz HB11.out.size
      have hmx : i + 1 ≤ maxLen := by unfold maxLen; omega
      have hi1i : (i1 : Int) ≤ 2000 := by omega
      clear hrw hb11 hgc hla hln hll hlv hR hmin hw1
      go_wp2_with (at_builtin; refine wpList_appendS rfl _ _ 35 rfl w.heap.size 1 3 (.int .i64 0) 8 Try.underlying35 info_int2 rfl (by decide) _ i _ rfl HO11.out #[.int .i64 (lv : Int)] rfl rfl (by simp [Value.oneCell']) hmx (by omega) hs11 ?_; intro g12 cap12 w12 hown12 hg12 hb12)
      go_roundg k
      case measure => omega
      case rel =>
        refine ⟨i + 1, some ⟨g12, 0, none⟩, cap12, by go_num, rfl, by omega, ?_, (HBL.out.trans (HB11.out.mono hsz)).trans hb12⟩
        rw [lensTo_succ, HLL.out]
        exact hown12
end Go.Proofs.Ytdmkijdokmnicaa
