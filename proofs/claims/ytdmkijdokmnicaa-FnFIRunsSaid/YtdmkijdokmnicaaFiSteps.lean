/- laws.fiSteps. -/
import Derived.Test.YtdmkijdokmnicaaFiTwice
import Derived.BigRegion
import Derived.Deep.RegionHeld3
namespace Go.Proofs.Ytdmkijdokmnicaa
set_option linter.unusedVariables false
open Go.RowKit

theorem info_step4 : (Try.prog.info? 27).map (fun i => (i.zero, i.size, i.bytes)) = some (some (.agg #[.int .i64 0, .int .u64 0, .int .u64 0]), 3, 24) := by kernel_rfl
def flatS (zs : List FStep) : List Value := (zs.map stepRow).flatten
theorem flatS_app (xs ys : List FStep) : flatS (xs ++ ys) = flatS xs ++ flatS ys := by simp [flatS]
theorem flatS_set {v : Int} : ∀ {L : List FStep} {j : Nat} {x : FStep}, L[j]? = some x → (flatS L).set (j * 3) (.int .i64 v) = flatS (L.set j ⟨v, x.key, x.val⟩) := by
  intro L
  induction L with
  | nil => intro j u0 h; simp at h
  | cons x r ih =>
    intro j u0 h
    cases j with
    | zero =>
      simp at h
      subst h
      simp [flatS, stepRow]
    | succ j =>
      simp at h
      have := ih h
      simp only [flatS, List.map_cons, List.flatten_cons, List.set_cons_succ] at this ⊢
      rw [show (j + 1) * 3 = j * 3 + 3 by omega]
      simp [stepRow, this]
def OpOk (x : FStep) : Prop := x.op = 1 ∨ x.op = 2 ∨ x.op = 3 ∨ x.op = 4 ∨ x.op = 5 ∨ x.op = 6
def stepFix (x : FStep) : FStep := if 4 < x.op then ⟨3, x.key, x.val⟩ else x
def fixTo (zs : List FStep) (i : Nat) : List FStep := (zs.take i).map stepFix ++ zs.drop i
theorem fixTo_len (zs : List FStep) (i : Nat) : (fixTo zs i).length = zs.length := by
  unfold fixTo
  rw [List.length_append, List.length_map, List.length_take, List.length_drop]
  omega
theorem fixTo_at {zs : List FStep} {i : Nat} {x : FStep} (h : zs[i]? = some x) : (fixTo zs i)[i]? = some x := by
  have hi := (List.getElem?_eq_some_iff.1 h).1
  unfold fixTo
  rw [List.getElem?_append_right (by rw [List.length_map, List.length_take]; omega), List.length_map, List.length_take, Nat.min_eq_left (by omega), Nat.sub_self, List.getElem?_drop]
  simpa using h
theorem fixTo_succ {zs : List FStep} {i : Nat} {x : FStep} (h : zs[i]? = some x) : fixTo zs (i + 1) = (fixTo zs i).set i (stepFix x) := by
  have hi := (List.getElem?_eq_some_iff.1 h).1
  unfold fixTo
  have hl : ((zs.take i).map stepFix).length = i := by rw [List.length_map, List.length_take]; omega
  rw [List.set_append_right _ _ (by omega), hl, Nat.sub_self, List.take_succ_eq_append_getElem hi, List.map_append, List.append_assoc]
  congr 1
  rw [List.drop_eq_getElem_cons hi]
  have : zs[i] = x := by
    rw [List.getElem?_eq_getElem hi] at h
    exact Option.some.inj h
  simp [this]
theorem fix_le {x : FStep} (h : OpOk x) : (stepFix x).op ≤ 4 ∧ OpOk (stepFix x) := by
  unfold stepFix OpOk at *
  split
  · simp
  · rename_i h4
    exact ⟨by omega, h⟩
def WrapForm (v : Int) : Prop := wrap64 (1 + Int.tmod v 6) = 1 + Int.tmod v 6
theorem wrapForm (v : Int) : WrapForm v := by
  have h1 := Int.tmod_lt_of_pos v (show (0 : Int) < 6 by decide)
  have h2 : -6 < Int.tmod v 6 := Int.lt_tmod_of_pos v (by decide)
  unfold WrapForm
  obtain ⟨z, hz⟩ : ∃ z, Int.tmod v 6 = z := ⟨_, rfl⟩
  rw [hz] at h1 h2 ⊢
  unfold wrap64; omega
def StepsAre (w : World) (M : Nat) (out : Value) (wx : World) : Prop :=
  ∃ (p : Option Addr) (cap : Nat) (zs : List FStep), out = .slice p M cap ∧ zs.length = M ∧ (∀ x ∈ zs, OpOk x) ∧ wx.ownsRow w.heap.size 27 3 (.slice p M cap) M (flatS zs) ∧ Below w.heap.size w wx
def StepsLoop (w : World) (M k : Nat) (out idx : Value) (wr : World) : Prop := ∃ i : Nat, idx = .int .i64 (i : Int) ∧ i + k = M ∧ StepsAre w i out wr
def FixLoop (w : World) (zs : List FStep) (M k : Nat) (out : Value) (idx : Value) (wr : World) : Prop :=
  ∃ i : Nat, idx = .int .i64 (i : Int) ∧ i + k = M ∧ wr.ownsRow w.heap.size 27 3 out M (flatS (fixTo zs i)) ∧ Below w.heap.size w wr

set_option maxRecDepth 100000 in
set_option maxHeartbeats 8000000 in
theorem fisteps_any (u : Value) (ys : List FStep) (w : World) (hu : Rw 3 w u (ys.map stepRow)) (hy : ys.length ≤ 2147483647) :
    Calls Try.prog 7 #[u] w fun e w' => ∃ v' xs, e = .returned v' ∧ Rw 3 w' v' (xs.map stepRow) ∧ xs.length ≤ 200 ∧ (∀ x ∈ xs, OpOk x) ∧ ((∀ t, t < xs.length → tw xs t = false) ∨ ∀ x ∈ xs, x.op ≤ 4) ∧ Below w.heap.size w w' := by
  obtain ⟨ua, n, uc, rfl, hul, huc, hum, hur⟩ := hu
  rw [List.length_map] at hul
  have HUR := Lib.hid hur
  have HN := Lib.hid hul
  have hni : (n : Int) ≤ 2147483647 := by omega
  clear hur hul hum huc
  obtain ⟨M, hM⟩ : ∃ M, M = min n 200 := ⟨_, rfl⟩
  have HM := Lib.hid hM
  have hM2 : M ≤ 200 := by omega
  clear hM
  go_enter Try.func7, Try.ntmps7
  go_upto_block 0 with fail
  go_cut [3] (fun out wx => StepsAre w M out wx)
  case first =>
    go_wp2_with fail
    go_loopg [3, 4, 5] M (fun k out idx _ wr => StepsLoop w M k out idx wr)
    case atStart => exact ⟨0, rfl, by omega, none, 0, [], rfl, rfl, by simp, World.ownsRow_nil _ _ _ _, Below.refl _ _⟩
    case round =>
      obtain ⟨i, rfl, hik, p, cap, zs, rfl, hzl, hok, hown, hbl⟩ := hrel
      have HOK := Lib.hid hok
      have HO := Lib.hid hown
      have HB := Lib.hid hbl
      have HZ := Lib.hid hzl
      have hsz := hbl.size
      clear hok hown hzl
      cases gk with
      | zero =>
        have hiM : i = M := by omega
        by_cases hin : i < n
        · have h2 : i = 200 := by have := HM.out; omega
          subst h2
          have hd1 : decide (((200 : Nat) : Int) < (n : Int)) = true := by simp; omega
          clear hbl
          subst hiM
          go_wp2_with fail
          go_meet
          exact ⟨p, cap, zs, rfl, HZ.out, HOK.out, HO.out, HB.out⟩
        · have hd1 : decide ((i : Int) < (n : Int)) = false := by simp; omega
          clear hbl
          subst hiM
          go_wp2_with fail
          go_meet
          exact ⟨p, cap, zs, rfl, HZ.out, HOK.out, HO.out, HB.out⟩
      | succ k =>
        have hin : i < n := by have := HM.out; omega
        have hi2 : (i : Int) < 200 := by omega
        have hii : (i : Int) < (n : Int) := by omega
        have hi0 : (0 : Int) ≤ (i : Int) := by omega
        obtain ⟨b1, o1, rfl, hcell⟩ := HUR.out (by omega)
        have hrow := steprow_at ys i (by rw [HN.out]; exact hin)
        have q0 := hcell i _ hrow 0 _ rfl
        have q1 := hcell i _ hrow 1 _ rfl
        have q2 := hcell i _ hrow 2 _ rfl
        have hlt : b1 < wr.heap.size := Nat.lt_of_lt_of_le (World.block_lt_of_cell? w _ q0) hsz
        rw [← hbl.cell (World.block_lt_of_cell? w _ q0)] at q0
        rw [← hbl.cell (World.block_lt_of_cell? w _ q1)] at q1
        rw [← hbl.cell (World.block_lt_of_cell? w _ q2)] at q2
        rw [Nat.add_zero] at q0
        rw [← Nat.add_assoc] at q1 q2
        obtain ⟨⟨op, key, val⟩, hx⟩ : ∃ x, fstepAt ys i = x := ⟨_, rfl⟩
        rw [hx] at q0 q1 q2
        simp only at q0 q1 q2
        clear hcell hrow hx hbl
        go_wp2_with fail
        go_big_region
        have hw : WrapForm op := wrapForm op
        unfold WrapForm at hw
        rw [hw]
        obtain ⟨o, ho⟩ : ∃ o, 1 + op.tmod 6 = o := ⟨_, rfl⟩
        rw [ho]
        have hb0 : Below wr.heap.size wr (wr.alloc (.cells #[.int .i64 o, .int .u64 key, .int .u64 val] 27)).drew := ((Below.refl _ _).alloc (Nat.le_refl _) _).drew
        have hS0 : Blk (wr.alloc (.cells #[.int .i64 o, .int .u64 key, .int .u64 val] 27)).drew wr.heap.size 27 #[.int .i64 o, .int .u64 key, .int .u64 val] := (Blk.new wr _ _).drew
        obtain ⟨W, hW⟩ : ∃ W, W = (wr.alloc (.cells #[.int .i64 o, .int .u64 key, .int .u64 val] 27)).drew := ⟨_, rfl⟩
        rw [← hW] at hb0 hS0 ⊢
        have HBW := Lib.hid (HB.out.trans (hb0.mono hsz))
        have HOW := Lib.hid (row_blw HO.out hb0)
        have hszW : w.heap.size ≤ W.heap.size := Nat.le_trans hsz hb0.size
        have hE0 : w.heap.size ≤ wr.heap.size := hsz
        have hnE : (Value.slice p i cap).ownBlock ≠ some wr.heap.size := fun e => by have := (HO.out.lt _ e).2; omega
        clear hW hb0 hw q0 q1 q2 hlt
        obtain ⟨E, hE⟩ : ∃ E, E = wr.heap.size := ⟨_, rfl⟩
        rw [← hE] at hS0 hE0 hnE ⊢
        clear hE
        have c0 : W.cell? ⟨E, 0, none⟩ = some (.int .i64 o) := hS0.cell 0 rfl
        have c1 : W.cell? ⟨E, 1, none⟩ = some (.int .u64 key) := hS0.cell 1 rfl
        have c2 : W.cell? ⟨E, 2, none⟩ = some (.int .u64 val) := hS0.cell 2 rfl
        have f0 := hS0.free 0
        have HS0 := Lib.hid hS0
        have hmx : i + 1 ≤ maxLen := by unfold maxLen; omega
        clear hS0
        have HOO : Hid (1 + op.tmod 6 = o) := Lib.hid ho
        clear ho
        by_cases h1 : o < 1
        · have hd1 : decide (o < 1) = true := by simpa using h1
          have b1 := HS0.out.set 0 (.int .i64 1)
          have d0 : (W.setCell ⟨E, 0, none⟩ (.int .i64 1)).cell? ⟨E, 0, none⟩ = some (.int .i64 1) := b1.cell 0 rfl
          have d1 : (W.setCell ⟨E, 0, none⟩ (.int .i64 1)).cell? ⟨E, 1, none⟩ = some (.int .u64 key) := b1.cell 1 rfl
          have d2 : (W.setCell ⟨E, 0, none⟩ (.int .i64 1)).cell? ⟨E, 2, none⟩ = some (.int .u64 val) := b1.cell 2 rfl
          have HOW2 := Lib.hid (ownsRow_setCell_other HOW.out (a := ⟨E, 0, none⟩) hnE (.int .i64 1))
          have HBW2 : Hid (Below w.heap.size w (W.setCell ⟨E, 0, none⟩ (.int .i64 1))) := Lib.hid (HBW.out.setCell hE0 _)
          have hz2 : w.heap.size ≤ (W.setCell ⟨E, 0, none⟩ (.int .i64 1)).heap.size := HBW2.out.size
          clear b1
          go_upto_region 8 with fail
          obtain ⟨W2, hW2⟩ : ∃ W2, W2 = W.setCell ⟨E, 0, none⟩ (.int .i64 1) := ⟨_, rfl⟩
          rw [← hW2] at d0 d1 d2 HOW2 HBW2 hz2 ⊢
          clear hW2
          go_wp2_with (at_builtin; refine wpList_appendS rfl _ _ 25 rfl w.heap.size 3 27 (.agg #[.int .i64 0, .int .u64 0, .int .u64 0]) 24 Try.underlying25 info_step4 rfl (by decide) _ i _ rfl HOW2.out #[.int .i64 1, .int .u64 key, .int .u64 val] rfl rfl (by simp [Value.oneCell']) hmx (by omega) hz2 ?_; intro g9 cap9 w9 hown9 hg9 hb9)
          go_roundg k
          case measure => omega
          case rel =>
            refine ⟨i + 1, by go_num, by omega, some ⟨g9, 0, none⟩, cap9, zs ++ [⟨1, key, val⟩], rfl, by simp [HZ.out], fun x hx => ?_, ?_, HBW2.out.trans hb9⟩
            · rcases List.mem_append.1 hx with hx | hx
              · exact HOK.out x hx
              · rw [List.mem_singleton.1 hx]; exact .inl rfl
            · rw [flatS_app]
              simpa [flatS, stepRow] using hown9
        · have hd1 : decide (o < 1) = false := by simpa using h1
          go_wp2_with (at_builtin; refine wpList_appendS rfl _ _ 25 rfl w.heap.size 3 27 (.agg #[.int .i64 0, .int .u64 0, .int .u64 0]) 24 Try.underlying25 info_step4 rfl (by decide) _ i _ rfl HOW.out #[.int .i64 o, .int .u64 key, .int .u64 val] rfl rfl (by simp [Value.oneCell']) hmx (by omega) hszW ?_; intro g9 cap9 w9 hown9 hg9 hb9)
          go_roundg k
          case measure => omega
          case rel =>
            refine ⟨i + 1, by go_num, by omega, some ⟨g9, 0, none⟩, cap9, zs ++ [⟨o, key, val⟩], rfl, by simp [HZ.out], fun x hx => ?_, ?_, HBW.out.trans hb9⟩
            · rcases List.mem_append.1 hx with hx | hx
              · exact HOK.out x hx
              · rw [List.mem_singleton.1 hx]
                have h2 := Int.tmod_lt_of_pos op (show (0 : Int) < 6 by decide)
                have h3 := HOO.out
                unfold OpOk
                simp only
                omega
            · rw [flatS_app]
              simpa [flatS, stepRow] using hown9
  case rest =>
    obtain ⟨p, cap, zs, rfl, hzl, hok, hown, hbl⟩ := hcut
    have HOK := Lib.hid hok
    have HO := Lib.hid hown
    have HB := Lib.hid hbl
    have HZ := Lib.hid hzl
    have hsz := hbl.size
    have hR : Rw 3 wc (.slice p M cap) (zs.map stepRow) := by
      refine Rw.of_owns (rows := zs.map stepRow) (fun r hr => ?_) (by decide) (B := w.heap.size) (e := 27) (n := M) hown
      obtain ⟨q, _, rfl⟩ := List.mem_map.1 hr
      rfl
    have HR := Lib.hid hR
    clear hok hown hbl hzl hR
    go_wp2_with fail
    refine (fitwice_any _ zs M wc HR.out HZ.out (by omega)).mono ?_
    rintro e w2 ⟨b, rfl, htw, hb2⟩
    have HTW := Lib.hid htw
    have HB2 := Lib.hid (HB.out.trans (hb2.mono hsz))
    have HO2 := Lib.hid (row_blw HO.out hb2)
    clear htw hb2
    cases b with
    | false =>
      go_wp2_with fail
      go_ret
      refine ⟨_, zs, rfl, ?_, by rw [HZ.out]; exact hM2, HOK.out, .inl ?_, HB2.out⟩
      · refine Rw.of_owns (rows := zs.map stepRow) (fun r hr => ?_) (by decide) (B := w.heap.size) (e := 27) (n := M) HO2.out
        obtain ⟨q, _, rfl⟩ := List.mem_map.1 hr
        rfl
      · rw [HZ.out]; simpa using HTW.out
    | true =>
      go_wp2_with fail
      go_loopg [6] M (fun k idx wr => FixLoop w zs M k (.slice p M cap) idx wr)
      case atStart => exact ⟨0, rfl, by omega, by simpa [fixTo] using HO2.out, HB2.out⟩
      case round =>
        obtain ⟨i, rfl, hik, hown, hbl⟩ := hrel
        have HO3 := Lib.hid hown
        have HB3 := Lib.hid hbl
        clear hown hbl
        cases gk with
        | zero =>
          obtain rfl : i = M := by omega
          have hd : decide ((i : Int) < (i : Int)) = false := by simp
          go_wp2_with fail
          go_ret
          have hfx : fixTo zs i = zs.map stepFix := by
            unfold fixTo
            rw [List.take_of_length_le (by rw [HZ.out]; omega), List.drop_eq_nil_of_le (by rw [HZ.out]; omega), List.append_nil]
          refine ⟨_, zs.map stepFix, rfl, ?_, by rw [List.length_map, HZ.out]; exact hM2, fun x hx => ?_, .inr fun x hx => ?_, HB3.out⟩
          · refine Rw.of_owns (rows := (zs.map stepFix).map stepRow) (fun r hr => ?_) (by decide) (B := w.heap.size) (e := 27) (n := i) (by rw [← hfx]; exact HO3.out)
            obtain ⟨q, _, rfl⟩ := List.mem_map.1 hr
            rfl
          · obtain ⟨y, hy, rfl⟩ := List.mem_map.1 hx
            exact (fix_le (HOK.out y hy)).2
          · obtain ⟨y, hy, rfl⟩ := List.mem_map.1 hx
            exact (fix_le (HOK.out y hy)).1
        | succ k =>
          have hii : (i : Int) < (M : Int) := by omega
          have hi0 : (0 : Int) ≤ (i : Int) := by omega
          obtain ⟨g, c9, rfl, rfl⟩ : ∃ g c9, p = some ⟨g, 0, none⟩ ∧ cap = c9 := by
            rcases HO3.out.2 with ⟨_, h0⟩ | ⟨g, c9, cur, e, _⟩
            · omega
            · injection e with e1 e2 e3
              exact ⟨g, c9, e1, e3⟩
          obtain ⟨⟨op, key, val⟩, hx⟩ : ∃ x, zs[i]? = some x := ⟨zs[i]'(by have := HZ.out; omega), List.getElem?_eq_getElem _⟩
          have hfa := fixTo_at hx
          have hfs := fixTo_succ hx
          have hrow : ((fixTo zs i).map stepRow)[i]? = some (stepRow ⟨op, key, val⟩) := by simp [hfa]
          have hcl := flatten_at 3 _ (fun r hr => by obtain ⟨q, _, rfl⟩ := List.mem_map.1 hr; rfl) i 0 _ (.int .i64 op) hrow rfl
          have c0 := (HO3.out.cellAt (i * 3) (by omega)).trans hcl
          have f0 := HO3.out.frozenAt (i * 3)
          have hgz : w.heap.size ≤ g := (HO3.out.lt g rfl).1
          have HFS := Lib.hid hfs
          have HFA := Lib.hid hfa
          clear hfa hfs hx hrow hcl
          by_cases h4 : 4 < op
          · have hd4 : decide (4 < op) = true := by simpa using h4
            go_wp2_with fail
            go_roundg k
            case measure => omega
            case rel =>
              refine ⟨i + 1, by go_num, by omega, ?_, HB3.out.setCell hgz _⟩
              have h1 := (HO3.out.stored (i * 3) (.int .i64 3)).1
              rw [flatS_set HFA.out] at h1
              rw [HFS.out]
              simpa [stepFix, h4] using h1
          · have hd4 : decide (4 < op) = false := by simpa using h4
            go_wp2_with fail
            go_roundg k
            case measure => omega
            case rel =>
              refine ⟨i + 1, by go_num, by omega, ?_, HB3.out⟩
              rw [HFS.out]
              have : (fixTo zs i).set i ⟨op, key, val⟩ = fixTo zs i := by
                have hl := (List.getElem?_eq_some_iff.1 HFA.out)
                obtain ⟨h1, h2⟩ := hl
                rw [← h2]
                exact List.set_getElem_self h1
              have hsf : stepFix ⟨op, key, val⟩ = ⟨op, key, val⟩ := if_neg (by simp only; omega)
              rw [hsf, this]
              exact HO3.out
end Go.Proofs.Ytdmkijdokmnicaa
