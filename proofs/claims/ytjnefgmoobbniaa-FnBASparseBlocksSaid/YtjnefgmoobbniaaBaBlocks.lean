/- Walk of spec.BABlocks. -/
import Derived.Test.YtjnefgmoobbniaaBaBlkMath
import Derived.BigRegion
import Derived.RegionTactic
import Derived.ChangeAlike
import Derived.Deep.QuietTactic
import Derived.Deep.RegionHeld3
import Derived.BigQuiet
import Derived.IntWalk
import Derived.Laws.OwnMore
import Derived.StillTailTactics
namespace Go.Proofs.Ytjnefgmoobbniaa
set_option linter.unusedVariables false
open Go.RowKit Bam

def BlksRel (S : List Nat) (n : Nat) (w : World) (k : Nat) (out idx : Value) (wr : World) : Prop :=
  ∃ (i : Nat) (p : Option Addr) (m cc : Nat), out = .slice p m cc ∧ idx = .int .i64 (i : Int) ∧ i + k = n ∧ wr.ownsRow w.heap.size 30 1 (.slice p m cc) m (u64s (flatP (words (S.take i)))) ∧ Below w.heap.size w wr

theorem blk_store {w : World} {B g m cc : Nat} {l : Ps} {x wv u : Nat} (h : w.ownsRow B 30 1 (.slice (some ⟨g, 0, none⟩) m cc) m (u64s (flatP l ++ [x, wv]))) (hm : m = 2 * l.length + 2) : (w.setCell ⟨g, m - 1, none⟩ (.int .u64 (u : Int))).ownsRow B 30 1 (.slice (some ⟨g, 0, none⟩) m cc) m (u64s (flatP (l ++ [(x, u)]))) := by
  have h1 := (h.stored (m - 1) (.int .u64 (u : Int))).1
  rw [flat_last]
  have e : (u64s (flatP l ++ [x, wv])).set (m - 1) (.int .u64 (u : Int)) = u64s (flatP l ++ [x, u]) := by
    have h2 : m - 1 = (u64s (flatP l)).length + 1 := by rw [u64s_len, flatP_len]; omega
    rw [u64s_append, u64s_append, h2, List.set_append_right _ _ (by omega)]
    simp [u64s]
  rw [e] at h1
  exact h1
theorem wordAdd_new {acc : Ps} {k : Nat} (h : ∀ q, acc.getLast? = some q → q.1 ≠ k / 64) : wordAdd acc k = acc ++ [(k / 64, 0 ||| 2 ^ (k % 64))] := by
  unfold wordAdd
  rcases List.eq_nil_or_concat acc with e | ⟨l, q, e⟩
  · subst e; simp
  · obtain ⟨i, w⟩ := q
    have e' : acc = l ++ [(i, w)] := by simpa using e
    subst e'
    have hi : i ≠ k / 64 := h (i, w) (by simp)
    simp only [List.getLast?_concat]
    rw [if_neg hi, Nat.zero_or]
theorem wordAdd_old {l : Ps} {k w : Nat} : wordAdd (l ++ [(k / 64, w)]) k = l ++ [(k / 64, w ||| 2 ^ (k % 64))] := by
  unfold wordAdd
  simp only [List.getLast?_concat, List.dropLast_concat]
  rw [if_pos trivial]
theorem blk_cell {w : World} {B g m cc : Nat} {l : Ps} {x wv : Nat} (h : w.ownsRow B 30 1 (.slice (some ⟨g, 0, none⟩) m cc) m (u64s (flatP l ++ [x, wv]))) (hm : m = 2 * l.length + 2) : w.cell? ⟨g, m - 1, none⟩ = some (.int .u64 (wv : Int)) ∧ w.cell? ⟨g, m - 2, none⟩ = some (.int .u64 (x : Int)) ∧ B ≤ g ∧ g < w.heap.size ∧ m ≤ cc := by
  have hl := (h.lt g rfl)
  have e : ∀ j, j < m → w.cell? ⟨g, j, none⟩ = (u64s (flatP l ++ [x, wv]))[j]? := fun j hj => h.cellAt j (by omega)
  have h1 : (u64s (flatP l)).length = m - 2 := by rw [u64s_len, flatP_len]; omega
  have hcap : m ≤ cc := by
    rcases h.2 with ⟨h', _⟩ | ⟨g', cap', cur, h', _, hg, a, b, c, d⟩
    · simp at h'
    · injection h' with _ _ e3; omega
  refine ⟨?_, ?_, hl.1, hl.2, hcap⟩
  · rw [e _ (by omega), u64s_append, List.getElem?_append_right (by omega), h1, show m - 1 - (m - 2) = 1 by omega]; rfl
  · rw [e _ (by omega), u64s_append, List.getElem?_append_right (by omega), h1, Nat.sub_self]; rfl
theorem ownsRow_some2 {w : World} {B : Nat} {e : TypeId} {size : Nat} {p : Option Addr} {m cap n : Nat} {xs : List Value} (h : w.ownsRow B e size (.slice p m cap) n xs) (hn : 0 < n) : ∃ g, p = some ⟨g, 0, none⟩ ∧ B ≤ g := by
  rcases h.2 with ⟨h1, h2⟩ | ⟨g, c, cur, h1, h2, _⟩
  · omega
  · injection h1 with e1 e2 e3; exact ⟨g, e1, h2⟩
theorem wordAdd_len (acc : Ps) (k : Nat) : (wordAdd acc k).length ≤ acc.length + 1 := by
  unfold wordAdd
  split
  · simp
  · split
    · simp
    · simp
theorem words_len (S : List Nat) : (words S).length ≤ S.length := by
  have h : ∀ (S : List Nat) (acc : Ps), (S.foldl wordAdd acc).length ≤ acc.length + S.length := by
    intro S
    induction S with
    | nil => intro acc; simp
    | cons x S ih => intro acc; have h1 := ih (wordAdd acc x); have h2 := wordAdd_len acc x; simp only [List.foldl_cons, List.length_cons]; omega
  have := h S []
  simpa [words] using this

set_option maxRecDepth 100000 in
set_option maxHeartbeats 4000000 in
theorem bablocks_any (v : Value) (S : List Nat) (w : World) (hv : Us w v S) (hn : S.length ≤ 100000) (hs : Asc S) (hb : ∀ x ∈ S, x < 18446744073709551616) :
    Calls Try.prog 21 #[v] w fun e w' => ∃ v', e = .returned v' ∧ Us w' v' (flatP (words S)) ∧ Below w.heap.size w w' := by
  obtain ⟨a, cap, rfl, hr⟩ := hv.shape
  obtain ⟨n, hN⟩ : ∃ n, n = S.length := ⟨_, rfl⟩
  have HV := Lib.hid hv
  have HN := Lib.hid hN
  have HS := Lib.hid hs
  have HB := Lib.hid hb
  rw [← hN] at hr hn ⊢
  clear hv hN hs hb
  go_enter Try.func21, Try.ntmps21
  go_wp2_with fail
  go_loopg [3, 4] n (fun k out idx wr => BlksRel S n w k out idx wr)
  case atStart => exact ⟨0, none, 0, 0, rfl, rfl, by omega, World.ownsRow_nil _ _ _ _, Below.refl _ _⟩
  case round =>
    obtain ⟨i, p, m, cc, rfl, rfl, hik, hown, hbel⟩ := hrel
    have HO := Lib.hid hown
    have HBE := Lib.hid hbel
    have hsz := hbel.size
    have hlen : m ≤ 200000 := by
      have h1 := hown.1
      rw [u64s_len, flatP_len, Nat.mul_one] at h1
      have h2 := words_len (S.take i)
      rw [List.length_take] at h2
      omega
    clear hown hbel
    by_cases hi : i < n
    · cases gk with
      | zero => omega
      | succ k =>
        obtain ⟨g, hg, hcell⟩ := hr (by omega)
        subst hg
        have hck := hcell i hi
        have hgs : g < w.heap.size := World.block_lt_of_cell? w _ hck
        rw [← HBE.out.cell hgs] at hck
        have hwa := words_succ S i (by rw [← HN.out]; exact hi)
        have hX := HB.out (S.getD i 0) (by
          have hi' : i < S.length := by rw [← HN.out]; exact hi
          rw [List.getD_eq_getElem?_getD, List.getElem?_eq_getElem hi']; exact List.getElem_mem hi')
        obtain ⟨X, hXe⟩ : ∃ X, S.getD i 0 = X := ⟨_, rfl⟩
        rw [hXe] at hck hwa hX
        have HCK : Hid (w.cell? ⟨g, i, none⟩ = some (.int .u64 (X : Int))) := Lib.hid ((HBE.out.cell (p := ⟨g, i, none⟩) hgs).symm.trans hck)
        have HW := Lib.hid hwa
        clear hcell hr hwa hXe
        have hXd : (X : Int) / 64 = ((X / 64 : Nat) : Int) := by omega
        have hXm : (X : Int).tmod 64 = ((X % 64 : Nat) : Int) := by rw [Int.tmod_eq_emod_of_nonneg (by omega)]; omega
        have i2 : (i : Int) < (n : Int) := by omega
        have i3 : (0 : Int) ≤ (i : Int) := by omega
        have HXD := Lib.hid hXd
        have HXM := Lib.hid hXm
        clear hXd hXm
        rcases List.eq_nil_or_concat (words (S.take i)) with e | ⟨l, qq, e⟩
        · have hm0 : m = 0 := by have := HO.out.1; rw [e] at this; simp [flatP, u64s] at this; omega
          obtain ⟨L, hL⟩ : ∃ L, words (S.take i) = L := ⟨_, rfl⟩
          have HL : Hid (wr.ownsRow w.heap.size 30 1 (.slice p m cc) m (u64s (flatP L))) := Lib.hid (hL ▸ HO.out)
          rw [hL] at e
          have hlast : ∀ q, L.getLast? = some q → q.1 ≠ X / 64 := by rw [e]; intro q hq; simp at hq
          have HWN := Lib.hid ((hL ▸ HW.out : words (List.take (i + 1) S) = wordAdd L X).trans (wordAdd_new hlast))
          have t0 : ((m : Int) == 0) = true := by rw [hm0]; rfl
          clear e hL hlast hm0
          go_wp2_with fail
          go_quiet (fail)
          obtain ⟨w2, hw2⟩ : ∃ w2, wr.drewN nq = w2 := ⟨_, rfl⟩
          have ho2 : w2.ownsRow w.heap.size 30 1 (.slice p m cc) m (u64s (flatP L)) := hw2 ▸ HL.out
          have hck2 : w2.cell? ⟨g, i, none⟩ = some (.int .u64 (X : Int)) := hw2 ▸ hck
          have hsz2 : w.heap.size ≤ w2.heap.size := hw2 ▸ hsz
          have hb2 : Below w.heap.size w w2 := hw2 ▸ below_drewN HBE.out nq
          rw [hw2]
          have HO2 := Lib.hid ho2
          have HB2 := Lib.hid hb2
          have hsl : Sl (w2.alloc (.cells #[.int .u64 ((X : Int) / 64), .int .u64 0] 30)) (.slice (some ⟨w2.heap.size, 0, none⟩) 2 2) (u64s [X / 64, 0]) := by
            refine ⟨_, 2, 2, rfl, rfl, Nat.le_refl _, by decide, fun _ => ⟨w2.heap.size, 0, rfl, fun t u hu => ?_⟩⟩
            rw [Nat.zero_add]
            refine (Blk.new w2 30 #[.int .u64 ((X : Int) / 64), .int .u64 0]).cell t ?_
            rw [← Array.getElem?_toList, HXD.out]
            exact hu
          have HSL := Lib.hid hsl
          clear ho2 hb2 hw2 hsl hck
          go_wp2_with (at_builtin; refine wpList_appendSl rfl _ _ 23 23 rfl w.heap.size 30 30 (.int .u64 0) 8 Try.underlying23 Try.underlying23 info_u64 rfl (.slice p m cc) m (u64s (flatP L)) rfl (HO2.out.alloc _) (.slice (some ⟨w2.heap.size, 0, none⟩) 2 2) (u64s [X / 64, 0]) rfl HSL.out (u64s_one _) (by rw [u64s_len]; unfold maxLen; simp; omega) (by rw [u64s_len]; simp; omega) (by rw [World.size_alloc]; omega) ?_; intro p1 m1 cap1 w4 hown4 hg4 hb4; have HO4 := Lib.hid hown4; have HG4 := Lib.hid hb4; clear hown4 hg4 hb4)
          have hm4 : m1 = m + 2 := by
            rcases HO4.out.2 with ⟨_, e2⟩ | ⟨g1, cap, cur, e, _⟩
            · simp [u64s_len] at e2
            · injection e
          subst hm4
          have ho5 := HO4.out
          rw [← u64s_append, u64s_len] at ho5
          obtain ⟨g5, hg5, -⟩ := ownsRow_some2 ho5 (by simp)
          subst hg5
          have hb5 : Below w.heap.size w w4 := (HB2.out.alloc hsz2 _).trans (HG4.out.mono (Nat.le_refl _))
          have hck4 : w4.cell? ⟨g, i, none⟩ = some (.int .u64 (X : Int)) := (hb5.cell hgs).trans (HCK.out)
          obtain ⟨M, hM⟩ : ∃ M, m + 2 = M := ⟨_, rfl⟩
          have hM1 : (m : Int) + 2 = (M : Int) := by omega
          have hMl : M = 2 * L.length + 2 := by have h1 := HO2.out.1; rw [u64s_len, flatP_len, Nat.mul_one] at h1; omega
          rw [show ([X / 64, 0] : List Nat).length = 2 from rfl, hM] at ho5
          simp only [hM]
          obtain ⟨wv, hwv⟩ : ∃ wv : Nat, wv = 0 := ⟨_, rfl⟩
          have HC : Hid (w4.ownsRow w.heap.size 30 1 (.slice (some ⟨g5, 0, none⟩) M cap1) M (u64s (flatP L ++ [X / 64, wv]))) := Lib.hid (hwv ▸ ho5)
          have HM := Lib.hid hMl
          have HB5 := Lib.hid hb5
          have HWV : Hid (words (S.take (i + 1)) = L ++ [(X / 64, wv ||| 2 ^ (X % 64))]) := Lib.hid (hwv ▸ HWN.out)
          have hwl : wv < 18446744073709551616 := by omega
          clear ho5 hM hMl hb5 hck2 hsz2 HO4 HG4 HSL HO2 HB2 HWN hwv t0
          have hbc := blk_cell HC.out HM.out
          obtain ⟨y1, y2, y3, y4, y5⟩ := hbc
          have f1 := HC.out.frozenAt (M - 1)
          have hM2 : 2 ≤ M := by have := HM.out; omega
          have hM3 : M ≤ 200002 := by omega
          obtain ⟨J, hJ⟩ : ∃ J, M - 1 = J := ⟨_, rfl⟩
          rw [hJ] at y1 f1
          have hJ1 : IntKind.i64.wrap ((M : Int) - 1) = (J : Int) := by rw [IntWalk.i64_in _ (by omega)]; omega
          have hJ2 : (J : Int) < (M : Int) := by omega
          have hJ3 : (0 : Int) ≤ (J : Int) := by omega
          have hJ4 : J < M := by omega
          have HJ := Lib.hid hJ
          have hXM := HXM.out
          have hX3 : X % 64 < 64 := by omega
          clear hJ y2
          have hor := or_word wv (X % 64) hwl hX3
          go_still_tail 12, (by kernel_rfl)
          go_wp2_with fail
          go_roundg k
          case measure => omega
          case rel =>
            refine ⟨i + 1, some ⟨g5, 0, none⟩, M, cap1, rfl, by go_num, by omega, ?_, ?_⟩
            · rw [HWV.out, ← HJ.out]; exact blk_store (w := w4.drew) HC.out HM.out
            · exact (Below.drew HB5.out).setCell (by exact y3) _
        · obtain ⟨q1, q2⟩ := qq
          have ee : words (S.take i) = l ++ [(q1, q2)] := by rw [e]; simp
          obtain ⟨L, hL⟩ : ∃ L, words (S.take i) = L := ⟨_, rfl⟩
          have HL : Hid (wr.ownsRow w.heap.size 30 1 (.slice p m cc) m (u64s (flatP L))) := Lib.hid (hL ▸ HO.out)
          rw [hL] at ee
          have hq2 : q2 < 18446744073709551616 := by
            have h1 := (words_ok (S := S.take i) (List.Pairwise.sublist (List.take_sublist _ _) HS.out)).1
            rw [hL, ee] at h1
            have h2 := h1.2 (q1, q2) (by simp); exact Nat.lt_of_lt_of_le h2 (by decide)
          have hmE : m = 2 * l.length + 2 := by have := HO.out.1; rw [hL, ee, u64s_len, flatP_len, Nat.mul_one, List.length_append] at this; simp at this; omega
          have ho := HL.out
          rw [ee, flat_last] at ho
          obtain ⟨g5, hg5, -⟩ := ownsRow_some2 ho (by omega)
          subst hg5
          obtain ⟨z1, z2, z3, z4, z5⟩ := blk_cell ho hmE
          obtain ⟨J, hJ⟩ : ∃ J, m - 2 = J := ⟨_, rfl⟩
          rw [hJ] at z2
          have hJ1 : IntKind.i64.wrap ((m : Int) - 2) = (J : Int) := by rw [IntWalk.i64_in _ (by omega)]; omega
          have hJ2 : (J : Int) < (m : Int) := by omega
          have hJ3 : (0 : Int) ≤ (J : Int) := by omega
          have hJ4 : J < m := by omega
          have t0 : ((m : Int) == 0) = false := by rw [beq_eq_false_iff_ne]; omega
          have HO1 := Lib.hid ho
          have HE := Lib.hid hmE
          have HEE := Lib.hid ee
          have HLL := Lib.hid hL
          obtain ⟨Y, hY⟩ : ∃ Y, X / 64 = Y := ⟨_, rfl⟩
          have hXY : (X : Int) / 64 = (Y : Int) := by omega
          have HY := Lib.hid hY
          clear e ho hmE ee hL hJ z1
          by_cases hq : q1 = Y
          · have t1 : ((q1 : Int) != (Y : Int)) = false := by rw [hq]; exact bne_self_eq_false _
            have HQ := Lib.hid hq
            clear hq hY
            go_wp2_with fail
            go_quiet (fail)
            go_wp2_with fail
            obtain ⟨w4, hw4⟩ : ∃ w4, wr.drewN nq = w4 := ⟨_, rfl⟩
            have ho5 : w4.ownsRow w.heap.size 30 1 (.slice (some ⟨g5, 0, none⟩) m cc) m (u64s (flatP l ++ [X / 64, q2])) := by rw [HY.out, ← HQ.out]; exact hw4 ▸ HO1.out
            have hck4 : w4.cell? ⟨g, i, none⟩ = some (.int .u64 (X : Int)) := hw4 ▸ hck
            have hb5 : Below w.heap.size w w4 := hw4 ▸ below_drewN HBE.out nq
            rw [hw4]
            obtain ⟨M, hM⟩ : ∃ M, m = M := ⟨_, rfl⟩
            have HWV : Hid (words (S.take (i + 1)) = l ++ [(X / 64, q2 ||| 2 ^ (X % 64))]) := Lib.hid (HW.out.trans (by rw [HLL.out, HEE.out, HQ.out, ← HY.out]; exact wordAdd_old))
            rw [hM] at ho5 hlen ⊢
            have HM : Hid (M = 2 * l.length + 2) := Lib.hid (hM ▸ HE.out)
            have HC := Lib.hid ho5
            have HB5 := Lib.hid hb5
            clear z2 z3 z4 z5 t0 t1 hJ1 hJ2 hJ3 hJ4 hXY ho5 hb5 hM hck hw4


            have hbc := blk_cell HC.out HM.out
            obtain ⟨y1, y2, y3, y4, y5⟩ := hbc
            have f1 := HC.out.frozenAt (M - 1)
            have hM2 : 2 ≤ M := by have := HM.out; omega
            have hM3 : M ≤ 200002 := by omega
            obtain ⟨J, hJ⟩ : ∃ J, M - 1 = J := ⟨_, rfl⟩
            rw [hJ] at y1 f1
            have hJ1 : IntKind.i64.wrap ((M : Int) - 1) = (J : Int) := by rw [IntWalk.i64_in _ (by omega)]; omega
            have hJ2 : (J : Int) < (M : Int) := by omega
            have hJ3 : (0 : Int) ≤ (J : Int) := by omega
            have hJ4 : J < M := by omega
            have HJ := Lib.hid hJ
            have hXM := HXM.out
            have hX3 : X % 64 < 64 := by omega
            clear hJ y2
            have hor := or_word q2 (X % 64) hq2 hX3
            go_still_tail 12, (by kernel_rfl)
            go_wp2_with fail
            go_roundg k
            case measure => omega
            case rel =>
              refine ⟨i + 1, some ⟨g5, 0, none⟩, M, cc, rfl, by go_num, by omega, ?_, ?_⟩
              · rw [HWV.out, ← HJ.out]; exact blk_store (w := w4.drew) HC.out HM.out
              · exact (Below.drew HB5.out).setCell (by exact y3) _
          · have t1 : ((q1 : Int) != (Y : Int)) = true := by rw [bne_iff_ne]; intro h; apply hq; exact Int.ofNat.inj h
            have HQ := Lib.hid hq
            clear hq hY
            go_wp2_with fail
            go_quiet (fail)
            have hlast : ∀ q, L.getLast? = some q → q.1 ≠ X / 64 := by
              rw [HEE.out]; intro q hq; rw [List.getLast?_concat] at hq; injection hq with hq; rw [← hq, HY.out]; exact HQ.out
            have HWN := Lib.hid ((HLL.out ▸ HW.out : words (List.take (i + 1) S) = wordAdd L X).trans (wordAdd_new hlast))
            clear z2 z3 z4 z5 t1 hJ1 hJ2 hJ3 hJ4 hXY hlast HLL HEE HY HQ HO1 HE
            obtain ⟨p, hp⟩ : ∃ p, some (⟨g5, 0, none⟩ : Addr) = p := ⟨_, rfl⟩
            rw [hp] at HL ⊢
            clear hp


            obtain ⟨w2, hw2⟩ : ∃ w2, wr.drewN nq = w2 := ⟨_, rfl⟩
            have ho2 : w2.ownsRow w.heap.size 30 1 (.slice p m cc) m (u64s (flatP L)) := hw2 ▸ HL.out
            have hck2 : w2.cell? ⟨g, i, none⟩ = some (.int .u64 (X : Int)) := hw2 ▸ hck
            have hsz2 : w.heap.size ≤ w2.heap.size := hw2 ▸ hsz
            have hb2 : Below w.heap.size w w2 := hw2 ▸ below_drewN HBE.out nq
            rw [hw2]
            have HO2 := Lib.hid ho2
            have HB2 := Lib.hid hb2
            have hsl : Sl (w2.alloc (.cells #[.int .u64 ((X : Int) / 64), .int .u64 0] 30)) (.slice (some ⟨w2.heap.size, 0, none⟩) 2 2) (u64s [X / 64, 0]) := by
              refine ⟨_, 2, 2, rfl, rfl, Nat.le_refl _, by decide, fun _ => ⟨w2.heap.size, 0, rfl, fun t u hu => ?_⟩⟩
              rw [Nat.zero_add]
              refine (Blk.new w2 30 #[.int .u64 ((X : Int) / 64), .int .u64 0]).cell t ?_
              rw [← Array.getElem?_toList, HXD.out]
              exact hu
            have HSL := Lib.hid hsl
            clear ho2 hb2 hw2 hsl hck
            go_wp2_with (at_builtin; refine wpList_appendSl rfl _ _ 23 23 rfl w.heap.size 30 30 (.int .u64 0) 8 Try.underlying23 Try.underlying23 info_u64 rfl (.slice p m cc) m (u64s (flatP L)) rfl (HO2.out.alloc _) (.slice (some ⟨w2.heap.size, 0, none⟩) 2 2) (u64s [X / 64, 0]) rfl HSL.out (u64s_one _) (by rw [u64s_len]; unfold maxLen; simp; omega) (by rw [u64s_len]; simp; omega) (by rw [World.size_alloc]; omega) ?_; intro p1 m1 cap1 w4 hown4 hg4 hb4; have HO4 := Lib.hid hown4; have HG4 := Lib.hid hb4; clear hown4 hg4 hb4)
            have hm4 : m1 = m + 2 := by
              rcases HO4.out.2 with ⟨_, e2⟩ | ⟨g1, cap, cur, e, _⟩
              · simp [u64s_len] at e2
              · injection e
            subst hm4
            have ho5 := HO4.out
            rw [← u64s_append, u64s_len] at ho5
            obtain ⟨g5, hg5, -⟩ := ownsRow_some2 ho5 (by simp)
            subst hg5
            have hb5 : Below w.heap.size w w4 := (HB2.out.alloc hsz2 _).trans (HG4.out.mono (Nat.le_refl _))
            have hck4 : w4.cell? ⟨g, i, none⟩ = some (.int .u64 (X : Int)) := (hb5.cell hgs).trans (HCK.out)
            obtain ⟨M, hM⟩ : ∃ M, m + 2 = M := ⟨_, rfl⟩
            have hM1 : (m : Int) + 2 = (M : Int) := by omega
            have hMl : M = 2 * L.length + 2 := by have h1 := HO2.out.1; rw [u64s_len, flatP_len, Nat.mul_one] at h1; omega
            rw [show ([X / 64, 0] : List Nat).length = 2 from rfl, hM] at ho5
            simp only [hM]
            obtain ⟨wv, hwv⟩ : ∃ wv : Nat, wv = 0 := ⟨_, rfl⟩
            have HC : Hid (w4.ownsRow w.heap.size 30 1 (.slice (some ⟨g5, 0, none⟩) M cap1) M (u64s (flatP L ++ [X / 64, wv]))) := Lib.hid (hwv ▸ ho5)
            have HM := Lib.hid hMl
            have HB5 := Lib.hid hb5
            have HWV : Hid (words (S.take (i + 1)) = L ++ [(X / 64, wv ||| 2 ^ (X % 64))]) := Lib.hid (hwv ▸ HWN.out)
            have hwl : wv < 18446744073709551616 := by omega
            clear ho5 hM hMl hb5 hck2 hsz2 HO4 HG4 HSL HO2 HB2 HWN hwv t0
            have hbc := blk_cell HC.out HM.out
            obtain ⟨y1, y2, y3, y4, y5⟩ := hbc
            have f1 := HC.out.frozenAt (M - 1)
            have hM2 : 2 ≤ M := by have := HM.out; omega
            have hM3 : M ≤ 200002 := by omega
            obtain ⟨J, hJ⟩ : ∃ J, M - 1 = J := ⟨_, rfl⟩
            rw [hJ] at y1 f1
            have hJ1 : IntKind.i64.wrap ((M : Int) - 1) = (J : Int) := by rw [IntWalk.i64_in _ (by omega)]; omega
            have hJ2 : (J : Int) < (M : Int) := by omega
            have hJ3 : (0 : Int) ≤ (J : Int) := by omega
            have hJ4 : J < M := by omega
            have HJ := Lib.hid hJ
            have hXM := HXM.out
            have hX3 : X % 64 < 64 := by omega
            clear hJ y2
            have hor := or_word wv (X % 64) hwl hX3
            go_still_tail 12, (by kernel_rfl)
            go_wp2_with fail
            go_roundg k
            case measure => omega
            case rel =>
              refine ⟨i + 1, some ⟨g5, 0, none⟩, M, cap1, rfl, by go_num, by omega, ?_, ?_⟩
              · rw [HWV.out, ← HJ.out]; exact blk_store (w := w4.drew) HC.out HM.out
              · exact (Below.drew HB5.out).setCell (by exact y3) _
    · obtain rfl : i = n := by omega
      go_wp2_with fail
      go_ret
      refine ⟨_, rfl, ?_, HBE.out⟩
      have h := HO.out
      rw [List.take_of_length_le (by rw [HN.out]; exact Nat.le_refl _)] at h
      exact Us.of h
end Go.Proofs.Ytjnefgmoobbniaa
