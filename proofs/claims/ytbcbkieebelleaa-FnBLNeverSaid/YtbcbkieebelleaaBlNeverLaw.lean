/- FnBLNever. -/
import Derived.Test.YtbcbkieebelleaaBlRun
import Derived.Test.YtbcbkieebelleaaBlFilter
import Derived.Outline
import Derived.Deep.DeepMust
namespace Go.Proofs.Ytbcbkieebelleaa
set_option linter.unusedVariables false
open Go.RowKit

theorem Sl.take80 {w : World} {a : Option Addr} {n cap : Nat} {xs : List Int} (h : Sl w (.slice a n cap) (u8s xs)) : Sl w (.slice a (min n 80) cap) (u8s (xs.take 80)) := by
  obtain ⟨_, _, _, e, hl, hc, hm, hr⟩ := h
  simp only [Value.slice.injEq] at e
  obtain ⟨rfl, rfl, rfl⟩ := e
  refine ⟨a, min n 80, cap, rfl, ?_, by omega, hm, fun h0 => ?_⟩
  · simp [u8s] at hl ⊢
    omega
  · obtain ⟨b, o, ha, hcell⟩ := hr (by omega)
    refine ⟨b, o, ha, fun i u hu => hcell i u ?_⟩
    unfold u8s at hu ⊢
    rw [List.map_take, List.getElem?_take] at hu
    split at hu
    · exact hu
    · cases hu

set_option maxRecDepth 100000 in
set_option maxHeartbeats 1000000 in
theorem bldatac_any (a : Option Addr) (n cap : Nat) (w : World) (hc : n ≤ cap) (hm : cap ≤ maxLen) :
    Calls Try.prog 25 #[.slice a n cap] w fun e w' => e = .returned (.slice a (min n 80) cap) ∧ w = w' := by
  have hm2 : (n : Int) ≤ 9223372036854775807 := by unfold maxLen at hm; omega
  have HC := Lib.hid hc
  by_cases hn : 80 < n
  · have h80 : 80 ≤ cap := by have := HC.out; omega
    have h80i : (80 : Int) ≤ (cap : Int) := by omega
    have e : min n 80 = 80 := by omega
    rw [e]
    clear e hc hm
    go_enter Try.func25, Try.ntmps25
    go_wp2_with fail
    go_ret
    exact ⟨rfl, rfl⟩
  · have e : min n 80 = n := by omega
    rw [e]
    clear e hc hm
    go_enter Try.func25, Try.ntmps25
    go_wp2_with fail
    go_ret
    exact ⟨rfl, rfl⟩

theorem info_step : (Try.prog.info? 65).map (fun i => (i.zero, i.size, i.bytes)) = some (some (.agg #[.int .i64 0, .slice none 0 0]), 2, 32) := by kernel_rfl

def row1 (p : Value × List Int) : List Value := [.int .i64 1, p.1]
def row2 (p : Value × List Int) : List Value := [.int .i64 2, p.1]
theorem row1_len (l : List (Value × List Int)) : ∀ r ∈ l.map row1, r.length = 2 := by
  intro r hr
  obtain ⟨p, _, rfl⟩ := List.mem_map.1 hr
  rfl
theorem row2_len (l : List (Value × List Int)) : ∀ r ∈ l.map row2, r.length = 2 := by
  intro r hr
  obtain ⟨p, _, rfl⟩ := List.mem_map.1 hr
  rfl
theorem rows_len (l k : List (Value × List Int)) : ∀ r ∈ l.map row1 ++ k.map row2, r.length = 2 := by
  intro r hr
  rcases List.mem_append.1 hr with h | h
  · exact row1_len l r h
  · exact row2_len k r h

def Nev1 (N F Z m k : Nat) (p1 : Option Addr) (m1 k1 : Nat) (w : World) (c : Nat) (lv iv : Value) (wr : World) : Prop :=
  ∃ (i : Nat) (p : Option Addr) (cap : Nat) (dl : List (Value × List Int)), lv = .slice p i cap ∧ iv = .int .i64 (i : Int) ∧ i + c = N ∧ dl.length = i ∧ wr.ownsRow Z 65 2 (.slice p i cap) i (dl.map row1).flatten ∧
    (∀ p ∈ dl, Sl w p.1 (u8s p.2) ∧ p.2.length ≤ 80) ∧ Blk wr F 39 #[.int .u64 (m : Int), .int .u64 (k : Int), .slice p1 m1 k1] ∧ Below w.heap.size w wr ∧ Z ≤ wr.heap.size
def Nev2 (n F Z m k : Nat) (p1 : Option Addr) (m1 k1 : Nat) (dl : List (Value × List Int)) (w : World) (c : Nat) (lv iv : Value) (wr : World) : Prop :=
  ∃ (i : Nat) (p : Option Addr) (cap : Nat), lv = .slice p (n + i) cap ∧ iv = .int .i64 (i : Int) ∧ i + c = n ∧ wr.ownsRow Z 65 2 (.slice p (n + i) cap) (n + i) (dl.map row1 ++ (dl.take i).map row2).flatten ∧
    Blk wr F 39 #[.int .u64 (m : Int), .int .u64 (k : Int), .slice p1 m1 k1] ∧ Below w.heap.size w wr ∧ Z ≤ wr.heap.size
def Nev3 (n : Nat) (w : World) (c : Nat) (iv : Value) (wr : World) : Prop :=
  ∃ i : Nat, iv = .int .i64 ((n + i : Nat) : Int) ∧ i + c = n ∧ wr = w

set_option maxRecDepth 100000 in
set_option maxHeartbeats 8000000 in
theorem law_blnever (a b : Int) (v : Value) (w : World) (ha : (Lit.int .u16 a).wf = true) (hb : (Lit.int .u8 b).wf = true) (hv : AnyRows w v) :
    Calls Try.prog 9 #[.int .u16 a, .int .u8 b, v] w fun e w' => e = .returned (.bool true) ∧ Below w.heap.size w w' := by
  have hA : 0 ≤ a ∧ a ≤ 65535 := by simp [Lit.wf, IntKind.min, IntKind.max, IntKind.signed, IntKind.bits] at ha; omega
  have hB : 0 ≤ b ∧ b ≤ 255 := by simp [Lit.wf, IntKind.min, IntKind.max, IntKind.signed, IntKind.bits] at hb; omega
  obtain ⟨x, rfl⟩ := Int.eq_ofNat_of_zero_le hA.1
  obtain ⟨y, rfl⟩ := Int.eq_ofNat_of_zero_le hB.1
  have hA2 : x ≤ 65535 := by omega
  have hB2 : y ≤ 255 := by omega
  obtain ⟨dd, hs, hx⟩ := hv
  have HFIT := Lib.hid (fits5_any v dd w hs hx)
  have hs0 := hs
  obtain ⟨va, vn, vc, rfl, hvl, hvc, hvm, hvr⟩ := hs0
  have hvl2 : dd.length = vn := by simpa using hvl
  have hvn : (vn : Int) ≤ 9223372036854775807 := by unfold maxLen at hvm; omega
  have HX := Lib.hid hx
  have HVL := Lib.hid hvl2
  have HVR := Lib.hid hvr
  obtain ⟨m, hm⟩ : ∃ m, 1 + x % 700 = m := ⟨_, rfl⟩
  obtain ⟨k, hk⟩ : ∃ k, 1 + y % 8 = k := ⟨_, rfl⟩
  have hm7 : m ≤ 700 := by omega
  have hm0 : 1 ≤ m := by omega
  have hk8 : k ≤ 8 := by omega
  have hk0 : 1 ≤ k := by omega
  have HM := Lib.hid hm
  have HK := Lib.hid hk
  clear hA hB ha hb hs hx hm hk hvl hvl2 hvc hvm hvr
  go_enter Try.func9, Try.ntmps9
  go_wp2_with fail
  refine HFIT.out.mono ?_
  rintro e w' ⟨bb, rfl, nq, rfl⟩
  have hb0 : Below w.heap.size w (w.drewN nq) := below_drewN (Below.refl _ _) nq
  obtain ⟨W, hW⟩ : ∃ W, W = w.drewN nq := ⟨_, rfl⟩
  rw [← hW] at hb0 ⊢
  have HB0 := Lib.hid hb0
  have HWZ : Hid (W.heap.size = w.heap.size) := Lib.hid (by rw [hW]; rfl)
  clear hb0 hW
  cases bb
  · go_wp2_with fail
    go_ret
    exact ⟨rfl, HB0.out⟩
  · go_wp2_with fail
    refine (blfilter_any x y _ [] _ hA2 hB2 (Sl.nil _) (by simp)).mono ?_
    rintro e w1 ⟨v1, ws, rfl, hof, hl, hb1⟩
    rw [HM.out, HK.out] at hof
    obtain ⟨p1, m1, k1, rfl, _⟩ := hof
    have HT1 := Lib.hid (HB0.out.trans (hb1.mono (by rw [HWZ.out]; exact Nat.le_refl _)))
    clear hl hb1
    obtain ⟨N, hN⟩ : ∃ N, min vn 40 = N := ⟨_, rfl⟩
    have HN := Lib.hid hN
    have hN40 : N ≤ 40 := by omega
    clear hN
    go_wp2_with fail
    go_loopg [8, 9] N (fun c lv iv wr => Nev1 N w1.heap.size (w1.heap.size + 1) m k p1 m1 k1 w c lv iv wr)
    case atStart =>
      exact ⟨0, none, 0, [], rfl, rfl, by omega, rfl, World.ownsRow_nil _ _ _ _, by simp, Blk.new _ _ _, HT1.out.alloc HT1.out.size _, by simp⟩
    case round =>
      obtain ⟨i, p, cap, dl, rfl, rfl, hic, hdl, hown, hmem, hblk, hbel, hzz⟩ := hrel
      have HDL := Lib.hid hdl
      have HO := Lib.hid hown
      have HMEM := Lib.hid hmem
      have HBLK := Lib.hid hblk
      have HBEL := Lib.hid hbel
      clear hdl hown hmem hblk hbel
      by_cases hi : i < N
      · cases gk with
        | zero => omega
        | succ c =>
          have hin : i < vn := by have := HN.out; omega
          have hi40 : i < 40 := by omega
          obtain ⟨bq, off, rfl, hcell⟩ := HVR.out (by omega)
          have hid : i < dd.length := by rw [HVL.out]; exact hin
          have h1 := hcell i (dd[i]'hid).1 (by simp [hid])
          rw [← HBEL.out.cell (World.block_lt_of_cell? w _ h1)] at h1
          obtain ⟨y, hy⟩ : ∃ y, y = dd[i]'hid := ⟨_, rfl⟩
          have hsl := (HX.out _ (List.getElem_mem hid)).1
          rw [← hy] at h1 hsl
          obtain ⟨yv, bs⟩ := y
          simp only [] at h1 hsl
          have hsl0 := hsl
          obtain ⟨a2, n2, c2, rfl, _, hc2, hmc2, _⟩ := hsl0
          have HSL := Lib.hid hsl.take80
          have HCM : Hid (n2 ≤ c2 ∧ c2 ≤ maxLen) := Lib.hid ⟨hc2, hmc2⟩
          clear hsl hy hcell hid hc2 hmc2
          go_wp2_with fail
          refine (bldatac_any a2 n2 c2 _ HCM.out.1 HCM.out.2).mono ?_
          rintro e w' ⟨rfl, rfl⟩
          obtain ⟨n3, hn3⟩ : ∃ n3, min n2 80 = n3 := ⟨_, rfl⟩
          rw [hn3] at HSL ⊢
          have hmx : i + 1 ≤ maxLen := by unfold maxLen; omega
          clear hn3
          go_wp2_with (at_builtin; refine wpList_appendS rfl _ _ 63 rfl (w1.heap.size + 1) 2 65 (.agg #[.int .i64 0, .slice none 0 0]) 32 Try.underlying63 info_step rfl (by decide) _ i ((dl.map row1).flatten) rfl HO.out #[.int .i64 1, .slice a2 n3 c2] rfl rfl (by simp [Value.oneCell']) hmx (by omega) hzz ?_; intro g cap1 w5 hown5 hg5 hb5)
          go_roundg c
          case measure => omega
          case rel =>
            refine ⟨i + 1, _, _, dl ++ [(.slice a2 n3 c2, bs.take 80)], rfl, by go_num, by omega, by simp [HDL.out], ?_, ?_, HBLK.out.below hb5 (by omega), HBEL.out.trans (hb5.mono (by have := HT1.out.size; omega)), Nat.le_trans hzz hb5.size⟩
            · simpa [row1] using hown5
            · intro q hq
              rcases List.mem_append.1 hq with h | h
              · exact HMEM.out q h
              · obtain rfl : q = _ := by simpa using h
                exact ⟨HSL.out, by simp; omega⟩
      · obtain ⟨I, hI⟩ : ∃ I, I = N := ⟨_, rfl⟩
        obtain rfl : i = I := by omega
        have HI := Lib.hid hI
        have hcase : (i < vn ∧ decide (i < vn) = true ∧ (40 : Int) ≤ (i : Int) ∧ decide ((i : Int) < 40) = false) ∨ (¬ i < vn ∧ decide (i < vn) = false) := by
          by_cases hq : i < vn
          · left
            have := HN.out
            refine ⟨hq, by simp; omega, by omega, by simp; omega⟩
          · right
            exact ⟨hq, by simp; omega⟩
        have hLex : ∃ LL : Nat → Nat → Nat, ∀ j (h : j < dl.length), HasL (dl[j]).2 (LL j) := by
          obtain ⟨f, hf⟩ := Go.Deep.choose_lt (α := Nat → Nat) (n := dl.length) (p := fun j L => ∃ h : j < dl.length, HasL (dl[j]).2 L) (fun j hj => by
            obtain ⟨L, hL⟩ := hasl_ex (dl[j]).2 (by have := (HMEM.out _ (List.getElem_mem hj)).2; omega)
            exact ⟨L, hj, hL⟩)
          exact ⟨f, fun j hj => (hf j hj).2⟩
        obtain ⟨LL, hLL⟩ := hLex
        have HLL := Lib.hid hLL
        have hi40 : i ≤ 40 := by omega
        clear hI hi hic hLL hN40
        rcases hcase with ⟨hd0, hd1, hd2, hd3⟩ | ⟨hd0, hd1⟩
        all_goals
          go_wp2_with fail
          go_loopg [8, 11] i (fun c lv iv wr => Nev2 i w1.heap.size (w1.heap.size + 1) m k p1 m1 k1 dl w c lv iv wr)
          case atStart =>
            exact ⟨0, p, cap, rfl, rfl, by omega, by simpa using HO.out, HBLK.out, HBEL.out, hzz⟩
          case round =>
            obtain ⟨j, p2, cap2, rfl, rfl, hjc, hown2, hblk2, hbel2, hzz2⟩ := hrel
            have HO2 := Lib.hid hown2
            have HBLK2 := Lib.hid hblk2
            have HBEL2 := Lib.hid hbel2
            clear hown2 hblk2 hbel2
            by_cases hj : j < i
            · cases gk with
              | zero => omega
              | succ c =>
                have hjl : j < dl.length := by rw [HDL.out]; exact hj
                have hat : (dl.map row1 ++ (dl.take j).map row2)[j]? = some (row1 (dl[j]'hjl)) := by
                  rw [List.getElem?_append_left (by simpa using hjl)]
                  simp [hjl]
                have hflat := flatten_at 2 _ (rows_len dl (dl.take j)) j 1 _ (dl[j]'hjl).1 hat rfl
                have hsn : (dl.map row1 ++ (dl.take j).map row2).flatten ++ [.int .i64 2, (dl[j]'hjl).1] = (dl.map row1 ++ (dl.take (j + 1)).map row2).flatten := by
                  rw [List.take_succ_eq_append_getElem hjl, List.map_append, ← List.append_assoc]
                  generalize dl.map row1 ++ (dl.take j).map row2 = A
                  rw [List.flatten_append]
                  rfl
                obtain ⟨a2, n2, c2, hsl, x1, x2, x3, x4⟩ := (HMEM.out _ (List.getElem_mem hjl)).1
                obtain ⟨yv, hy⟩ : ∃ yv, yv = (dl[j]'hjl).1 := ⟨_, rfl⟩
                rw [← hy] at hflat hsn hsl
                subst hsl
                obtain ⟨b2, rfl⟩ : ∃ b2, p2 = some ⟨b2, 0, none⟩ := by
                  rcases HO2.out.2 with ⟨e, h0⟩ | ⟨g, cp, cur, e, _⟩
                  · omega
                  · simp only [Value.slice.injEq] at e
                    exact ⟨g, e.1⟩
                have hcell := HO2.out.cells (g := b2) rfl _ _ hflat
                rw [addr_add, Nat.zero_add] at hcell
                have HSN := Lib.hid hsn
                have hmx : i + j + 1 ≤ maxLen := by unfold maxLen; omega
                clear x4 x3 x2 x1 hat hflat hsn hy hjl
                go_wp2_with (at_builtin; go_must (refine wpList_appendS rfl _ _ 63 rfl (w1.heap.size + 1) 2 65 (.agg #[.int .i64 0, .slice none 0 0]) 32 Try.underlying63 info_step rfl (by decide) _ (i + j) _ rfl HO2.out #[.int .i64 2, .slice a2 n2 c2] rfl rfl (by simp [Value.oneCell']) hmx (by omega) hzz2 ?_); intro g cap1 w5 hown5 hg5 hb5)
                go_roundg c
                case measure => omega
                case rel =>
                  refine ⟨j + 1, _, _, rfl, by go_num, by omega, ?_, HBLK2.out.below hb5 (by omega), HBEL2.out.trans (hb5.mono (by have := HT1.out.size; omega)), Nat.le_trans hzz2 hb5.size⟩
                  rw [← HSN.out]
                  exact hown5
            · obtain ⟨J, hJ⟩ : ∃ J, J = i := ⟨_, rfl⟩
              obtain rfl : j = J := by omega
              subst hJ
              have hdt : decide ((j : Int) < (j : Int)) = false := by simp
              have hrw : Rw 2 wr (.slice p2 (j + j) cap2) (neverRows dl) := by
                have h := HO2.out
                rw [List.take_of_length_le (by rw [HDL.out]; exact Nat.le_refl _)] at h
                exact Rw.of_owns (rows_len dl dl) (by omega) h
              have HRUN := Lib.hid (blrun_never dl LL m k j _ wr HDL.out (by omega) (fun q hq => (HMEM.out q hq).1.below rfl HBEL2.out) HLL.out hrw hm0 (by omega) hk0 (by omega))
              have q0 : wr.cell? ⟨w1.heap.size, 0, none⟩ = some (.int .u64 (m : Int)) := HBLK2.out.cell 0 rfl
              have q1 : wr.cell? ⟨w1.heap.size, 1, none⟩ = some (.int .u64 (k : Int)) := HBLK2.out.cell 1 rfl
              clear hrw hj hjc
              go_wp2_with fail
              refine HRUN.out.mono ?_
              rintro e w6 ⟨v1, a4, n4, c4, bl, rfl, hsl, hlen, hall, hb6⟩
              have HT6 := Lib.hid (HBEL2.out.trans (hb6.mono HBEL2.out.size))
              have HALL := Lib.hid hall
              have HS6 := Lib.hid (hsl.below rfl ((Below.refl w6.heap.size w6).alloc (Nat.le_refl _) (.cells #[.int .u64 (m : Int), .int .u64 (k : Int), .slice a4 n4 c4] 39)))
              obtain ⟨b6, n6, c6, rfl, hl6, x1, x2, x3⟩ := hsl
              rw [bools_len] at hl6
              obtain rfl : n6 = j + j := by omega
              clear hall hlen x1 x2 x3 hl6 hb6
              have hne : (((j + j : Nat) : Int) != ((j + j : Nat) : Int)) = false := by simp
              have hne2 : ((j : Int) + (j : Int) != (j : Int) + (j : Int)) = false := by simp
              go_wp2_with fail
              obtain ⟨W9, hW9⟩ : ∃ W9, W9 = w6.alloc (.cells #[.int .u64 (m : Int), .int .u64 (k : Int), .slice a4 n4 c4] 39) := ⟨_, rfl⟩
              rw [← hW9] at HS6 ⊢
              have HT9 : Hid (Below w.heap.size w W9) := Lib.hid (by rw [hW9]; exact HT6.out.alloc HT6.out.size _)
              clear hW9 hne hne2
              go_loopg [14] j (fun c iv wz => Nev3 j W9 c iv wz)
              case atStart => exact ⟨0, by simp, by omega, rfl⟩
              case round =>
                obtain ⟨q, rfl, hqc, rfl⟩ := hrel
                by_cases hq : q < j
                · cases gk with
                  | zero => omega
                  | succ c =>
                    obtain ⟨_, _, _, e, h1, h2, h3, h4⟩ := HS6.out
                    cases e
                    obtain ⟨bz, oz, rfl, hcell⟩ := h4 (by omega)
                    have h5 := hcell (j + q) (.bool true) (by
                      have := HALL.out (j + q) (by omega) (by omega)
                      simp [bools, this])
                    clear h1 h2 h3 h4 hcell
                    go_wp2_with fail
                    go_roundg c
                    case measure => omega
                    case rel => exact ⟨q + 1, by go_num, by omega, rfl⟩
                · obtain ⟨Q, hQ⟩ : ∃ Q, Q = j := ⟨_, rfl⟩
                  obtain rfl : q = Q := by omega
                  subst hQ
                  have hdq : decide (((q + q : Nat) : Int) < ((q + q : Nat) : Int)) = false := by simp
                  go_wp2_with fail
                  go_ret
                  exact ⟨rfl, HT9.out⟩
end Go.Proofs.Ytbcbkieebelleaa
