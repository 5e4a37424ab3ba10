/- Walk of the insertion of one entry into an AVL tree. -/
import Derived.Test.YtidekgmpbcnfmaaAvTurn
import Derived.Test.YtidekgmpbcnfmaaAvAbs
import Derived.Test.YtidekgmpbcnfmaaAvPtr
import Derived.Deep.DeepCutAuto
import Derived.Deep.CutBlock
import Derived.Deep.LoopGhost
namespace Go.Proofs.Ytidekgmpbcnfmaa
set_option linter.unusedVariables false
open Go.RowKit Avm

set_option maxRecDepth 100000 in
theorem reset_any (i : Nat) (root : Option Addr) (n : Nat) (db : Int) (dl dr : Option Addr) (w : World) (h : Blk w i 96 #[.pointer root, .int .u64 (n : Int), .int .i8 db, .pointer dl, .pointer dr, Value.nilIface]) :
    Calls Try.prog 47 #[.pointer (some ⟨i, 0, none⟩)] w fun e w' => e = .returned (.tuple #[]) ∧ Blk w' i 96 #[.pointer root, .int .u64 (n : Int), .int .i8 0, .pointer none, .pointer none, Value.nilIface] ∧ Fr [i] [i] w w' := by
  have c2 := Blk.cell h 2 rfl
  have c3 := Blk.cell h 3 rfl
  have c4 := Blk.cell h 4 rfl
  have f2 := Blk.free h 2
  have f3 := Blk.free h 3
  have f4 := Blk.free h 4
  have H := Lib.hid h
  clear h
  go_enter Try.func47, Try.ntmps47
  go_wp2_with fail
  go_region_law fail
  all_goals go_wp2_with fail
  all_goals go_end0
  all_goals exact ⟨rfl, ((H.out.set 3 (.pointer none)).set 4 (.pointer none)).set 2 (.int .i8 0), ((Fr.store w (F := [i]) (a := ⟨i, 3, none⟩) (by simp) _).trans ((Fr.store _ (F := [i]) (a := ⟨i, 4, none⟩) (by simp) _).trans (Fr.store _ (F := [i]) (a := ⟨i, 2, none⟩) (by simp) _))).drew⟩

theorem hd_not {w : World} {i : Nat} {root : Option Addr} {n : Nat} (h : Hd w i root n) : ∀ {t : T}, At w t → i ∉ t.blocks
  | .nil, _, hb => by cases hb
  | .nd b bal l k v r, ⟨h1, h2, h3⟩, hb => by
    rcases List.mem_cons.1 hb with rfl | hb
    · obtain ⟨db, dl, dr, h⟩ := h
      have h4 : w.heap[i]? = some (.cells #[.int .i8 bal, .pointer (ptr l), .pointer (ptr r), .iface 99 (.agg #[.int .i64 k, .int .i64 v])] 94 (0, 0)) := h1
      have h5 : w.heap[i]? = some (.cells _ 96 (0, 0)) := h
      rw [h4] at h5
      injection h5 with h5
      injection h5 with h5 h6
      exact absurd h6 (by decide)
    · rcases List.mem_append.1 hb with hb | hb
      · exact hd_not h h2 hb
      · exact hd_not h h3 hb

theorem ifb_any (b : Bool) (w : World) : Calls Try.prog 51 #[.bool b] w fun e w' => e = .returned (.int .i64 (if b then 1 else 0)) ∧ w' = w := by
  cases b with
  | true =>
    go_enter Try.func51, Try.ntmps51
    go_wp2_with fail
    go_ret
    exact ⟨rfl, rfl⟩
  | false =>
    go_enter Try.func51, Try.ntmps51
    go_wp2_with fail
    go_ret
    exact ⟨rfl, rfl⟩
def firstBal : List Fm → Int → Int
  | [], x => x
  | f :: _, _ => f.bal
def hbl (pre : List Fm) (D : Nat) : Nat :=
  match pre.getLast? with
  | none => D
  | some f => f.b
theorem firstBal_snoc (mid : List Fm) (f : Fm) (x : Int) : firstBal (mid ++ [f]) x = firstBal mid f.bal := by cases mid <;> rfl
theorem hbl_snoc (pre : List Fm) (f : Fm) (D : Nat) : hbl (pre ++ [f]) D = f.b := by simp [hbl]
theorem tail_snoc (mid : List Fm) (f : Fm) (h : mid ≠ [] → f.bal = 0 ∧ ∀ g ∈ mid.tail, g.bal = 0) : ∀ g ∈ (mid ++ [f]).tail, g.bal = 0 := by
  cases mid with
  | nil => intro g hg; simp at hg
  | cons m mid =>
    intro g hg
    obtain ⟨h1, h2⟩ := h (by simp)
    simp only [List.cons_append, List.tail_cons, List.mem_append, List.mem_singleton] at hg
    rcases hg with hg | rfl
    · exact h2 g hg
    · exact h1
def DownRel (w : World) (i D b0 n G : Nat) (k : Int) (L : List (Int × Int)) (kk : Nat) (p s h : Value) (wr : World) : Prop :=
  ∃ (pre mid : List Fm) (b : Nat) (bal : Int) (l : T) (pk pv : Int) (r : T), p = .pointer (some ⟨b, 0, none⟩) ∧ s = .pointer (top mid (some ⟨b, 0, none⟩)) ∧ h = .pointer (some ⟨hbl pre D, 0, none⟩) ∧ InsSt w i D b0 n G k L (pre ++ mid) (.nd b bal l pk pv r) wr ∧ (b = b0 ∨ w.heap.size ≤ b) ∧ (T.nd b bal l pk pv r).h ≤ kk ∧
    (pre ≠ [] → firstBal mid bal ≠ 0) ∧ (mid ≠ [] → bal = 0 ∧ ∀ g ∈ mid.tail, g.bal = 0)
theorem VC_bal : ∀ {fs : List Fm} {h : Nat}, VC fs h → ∀ g ∈ fs, -1 ≤ g.bal ∧ g.bal ≤ 1
  | [], _, _, g, hg => by cases hg
  | f :: fs, h, ⟨_, h2, h3, _, h5⟩, g, hg => by
    rcases List.mem_cons.1 hg with rfl | hg
    · exact ⟨h2, h3⟩
    · exact VC_bal h5 g hg
def AdjRel (w : World) (i D b0 n G : Nat) (k v : Int) (pre post : List Fm) (Q : Nat) (kk : Nat) (p : Value) (wr : World) : Prop :=
  ∃ dn td : List Fm, post = dn ++ td ∧ p = .pointer (top td (some ⟨Q, 0, none⟩)) ∧ td.length = kk ∧ InsBot w i D b0 n G k v (pre ++ (dn.map Fm.adj ++ td)) Q wr
def InsCut (w : World) (i D b0 n G : Nat) (k : Int) (L : List (Int × Int)) (p s nm h : Value) (wx : World) : Prop :=
  ∃ (pre gs : List Fm) (lst : Fm), p = .pointer (some ⟨lst.b, 0, none⟩) ∧ s = .pointer (top (gs ++ [lst]) none) ∧ nm = .int .i64 (if lst.d then 1 else 0) ∧ h = .pointer (some ⟨hbl pre D, 0, none⟩) ∧ InsSt w i D b0 n G k L (pre ++ (gs ++ [lst])) .nil wx ∧
    (pre ≠ [] → firstBal (gs ++ [lst]) 0 ≠ 0) ∧ (∀ g ∈ (gs ++ [lst]).tail, g.bal = 0)

set_option maxRecDepth 100000 in
theorem insert_nil (i n : Nat) (k v : Int) (w : World) (hh : Hd w i none n) (hn : n < 9223372036854775807) :
    Calls Try.prog 40 #[.pointer (some ⟨i, 0, none⟩), .iface 99 (.agg #[.int .i64 k, .int .i64 v])] w fun e w' => e = .returned Value.nilIface ∧ Hd w' i (some ⟨w.heap.size, 0, none⟩) (n + 1) ∧ Nd w' w.heap.size 0 none none k v ∧ Fr [i] [i] w w' := by
  obtain ⟨db, dl, dr, hh⟩ := hh
  have c0 := Blk.cell hh 0 rfl
  have HH := Lib.hid hh
  have hlt := hh.lt
  clear hh
  go_enter Try.func40, Try.ntmps40
  go_wp2_with fail
  refine (newnode_any k v w).mono ?_
  rintro e w1 ⟨rfl, hn1, hb1, hs1⟩
  have hh1 : Blk w1 i 96 #[.pointer none, .int .u64 (n : Int), .int .i8 db, .pointer dl, .pointer dr, Value.nilIface] := (hb1.block i hlt).trans HH.out
  have c0 := hh1.cell 0 rfl
  have f0 := hh1.free 0
  have c1 := hh1.cell 1 rfl
  have f1 := hh1.free 1
  have e1 : IntKind.u64.wrap ((n : Int) + 1) = ((n + 1 : Nat) : Int) := by simp only [IntKind.wrap, IntKind.signed, IntKind.bits]; simp; omega
  have HH1 := Lib.hid hh1
  have HN1 := Lib.hid hn1
  have HB1 := Lib.hid hb1
  have hne : w.heap.size ≠ i := by omega
  clear hh1 hn1 hb1
  go_wp2_with fail
  go_ret
  refine ⟨rfl, ⟨db, dl, dr, (HH1.out.set 0 (.pointer (some ⟨w.heap.size, 0, none⟩))).set 1 (.int .u64 ((n + 1 : Nat) : Int))⟩, (HN1.out.oth hne _).oth hne _, (Fr.of_below [i] HB1.out).trans ((Fr.store _ (F := [i]) (a := ⟨i, 0, none⟩) (by simp) _).trans (Fr.store _ (F := [i]) (a := ⟨i, 1, none⟩) (by simp) _))⟩

set_option maxRecDepth 100000 in
set_option maxHeartbeats 4000000 in
theorem insert_nd (i n : Nat) (b0 : Nat) (bal0 : Int) (l0 : T) (k0 v0 : Int) (r0 : T) (k v : Int) (w : World) (hh : Hd w i (some ⟨b0, 0, none⟩) n) (ht : At w (.nd b0 bal0 l0 k0 v0 r0)) (hnd : (T.nd b0 bal0 l0 k0 v0 r0).blocks.Nodup) (hv : V (.nd b0 bal0 l0 k0 v0 r0)) (hsrt : Srt (T.nd b0 bal0 l0 k0 v0 r0).toL) (hnL : n = (T.nd b0 bal0 l0 k0 v0 r0).toL.length) (hn : n < 9223372036854775807) (G : Nat) (hG : G ≤ w.heap.size ∧ ∀ b ∈ (T.nd b0 bal0 l0 k0 v0 r0).blocks, G ≤ b) :
    Calls Try.prog 40 #[.pointer (some ⟨i, 0, none⟩), .iface 99 (.agg #[.int .i64 k, .int .i64 v])] w fun e w' => InsPost w i b0 G k v (T.nd b0 bal0 l0 k0 v0 r0).toL e w' := by
  have hi : i ∉ (T.nd b0 bal0 l0 k0 v0 r0).blocks := hd_not hh ht
  have HND := Lib.hid hnd
  have HGB := Lib.hid hG
  clear hG
  have HV := Lib.hid hv
  have HSR := Lib.hid hsrt
  obtain ⟨L, hL⟩ : ∃ L, (T.nd b0 bal0 l0 k0 v0 r0).toL = L := ⟨_, rfl⟩
  have HL := Lib.hid hL
  rw [hL] at HSR hnL ⊢
  have HNL := Lib.hid hnL
  clear hnd hv hsrt hL hnL
  obtain ⟨db, dl, dr, hh⟩ := hh
  have c0 := Blk.cell hh 0 rfl
  have hrs := reset_any i _ n db dl dr w hh
  have HRS := Lib.hid hrs
  have hlt := hh.lt
  have HT := Lib.hid ht
  have HI := Lib.hid hi
  clear hh hrs ht hi
  go_enter Try.func40, Try.ntmps40
  go_wp2_with fail
  refine HRS.out.mono ?_
  rintro e w1 ⟨rfl, hh1, hf1⟩
  have c0 := hh1.cell 0 rfl
  have c2 := hh1.cell 2 rfl
  have c3 := hh1.cell 3 rfl
  have c4 := hh1.cell 4 rfl
  have c5 := hh1.cell 5 rfl
  have hs1 := hf1.size
  have hlt1 : i < w1.heap.size := by omega
  have HH1 := Lib.hid hh1
  have HF1 := Lib.hid hf1
  have HT1 := Lib.hid (HT.out.fr hf1 (fun b hb e => HI.out (by rw [← List.mem_singleton.1 e]; exact hb)))
  clear hh1 hf1
  go_wp2_with fail
  have hal : Below w1.heap.size w1 (w1.alloc (.cells #[.int .i8 0, .pointer none, .pointer none, Value.nilIface] 94)) := (Below.refl _ _).alloc (Nat.le_refl _) _
  have hd0 := Blk.new w1 94 #[.int .i8 0, .pointer none, .pointer none, Value.nilIface]
  have hha := HH1.out.next hal
  have hta := HT1.out.below hal
  have hfa := HF1.out.trans (Fr.of_below [i] hal)
  obtain ⟨D, hD⟩ : ∃ D, w1.heap.size = D := ⟨_, rfl⟩
  obtain ⟨wa, hwa⟩ : ∃ wa, wa = w1.alloc (.cells #[.int .i8 0, .pointer none, .pointer none, Value.nilIface] 94) := ⟨_, rfl⟩
  rw [← hwa] at hal hd0 hha hta hfa ⊢
  rw [hD] at hd0 ⊢
  have hDw : w.heap.size ≤ D := by omega
  have hDi : i ≠ D := by omega
  have hDt : ∀ b ∈ (T.nd b0 bal0 l0 k0 v0 r0).blocks, b ≠ D := fun b hb e => by have := HT1.out.lt b hb; omega
  have HDT := Lib.hid hDt
  have c0 := hha.cell 0 rfl
  have c9 := hd0.cell 2 rfl
  have f9 := hd0.free 2
  have HHA := Lib.hid hha
  have HDA := Lib.hid hd0
  have HTA := Lib.hid hta
  have HFA := Lib.hid hfa
  clear hal hd0 hha hta hfa hwa hD c2 c3 c4 c5 hlt hlt1 hs1 HH1 HF1 HT1 HT HRS hDt
  refine wp_region_still_tail 7 (by kernel_rfl) (by kernel_rfl) ?_
  simp only [List.take_succ_cons, List.take_zero, List.drop_succ_cons, List.drop_zero]
  repeat still_step
  refine wpStill_nil ?_
  change wpList _ _ _ _ _ wa.drew
  go_upto_region 11 with fail
  have hd1 : Nd0 (wa.setCell ⟨D, 2, none⟩ (.pointer (some ⟨b0, 0, none⟩))).drew D (some ⟨b0, 0, none⟩) := HDA.out.set 2 (.pointer (some ⟨b0, 0, none⟩))
  have hh2 : Blk (wa.setCell ⟨D, 2, none⟩ (.pointer (some ⟨b0, 0, none⟩))).drew i 96 #[.pointer (some ⟨b0, 0, none⟩), .int .u64 (n : Int), .int .i8 0, .pointer none, .pointer none, Value.nilIface] := HHA.out.other (a := ⟨D, 2, none⟩) hDi _
  have ht2 : At (wa.setCell ⟨D, 2, none⟩ (.pointer (some ⟨b0, 0, none⟩))).drew (.nd b0 bal0 l0 k0 v0 r0) := HTA.out.fr (Fr.store wa (F := [D]) (a := ⟨D, 2, none⟩) (by simp) _).drew (fun b hb e => HDT.out b hb (List.mem_singleton.1 e))
  have hf2 : Fr [i] [i] w (wa.setCell ⟨D, 2, none⟩ (.pointer (some ⟨b0, 0, none⟩))).drew := (HFA.out.fresh (a := ⟨D, 2, none⟩) hDw _).drew
  obtain ⟨w2, hw2⟩ : ∃ w2, w2 = (wa.setCell ⟨D, 2, none⟩ (.pointer (some ⟨b0, 0, none⟩))).drew := ⟨_, rfl⟩
  rw [← hw2] at hd1 hh2 ht2 hf2 ⊢
  have c9 := hd1.cell 2 rfl
  have HD1 := Lib.hid hd1
  have HH2 := Lib.hid hh2
  have HT2 := Lib.hid ht2
  have HF2 := Lib.hid hf2
  clear hd1 hh2 ht2 hf2 hw2 HHA HDA HTA HFA c0 f9
  go_quiet (fail)
  have HD3 : Hid (Nd0 (w2.drewN nq) D (some ⟨b0, 0, none⟩)) := Lib.hid HD1.out
  have HH3 : Hid (Blk (w2.drewN nq) i 96 #[.pointer (some ⟨b0, 0, none⟩), .int .u64 (n : Int), .int .i8 0, .pointer none, .pointer none, Value.nilIface]) := Lib.hid HH2.out
  have HT3 : Hid (At (w2.drewN nq) (.nd b0 bal0 l0 k0 v0 r0)) := Lib.hid (HT2.out.below (below_drewN (Below.refl _ _) nq))
  have HF3 : Hid (Fr [i] [i] w (w2.drewN nq)) := Lib.hid (HF2.out.drewN nq)
  obtain ⟨w3, hw3⟩ : ∃ w3, w3 = w2.drewN nq := ⟨_, rfl⟩
  rw [← hw3] at HD3 HH3 HT3 HF3 ⊢
  clear hw3 HD1 HH2 HT2 HF2 c9
  go_upto_block 0 with fail
  have hst : InsSt w i D b0 n G k L [] (.nd b0 bal0 l0 k0 v0 r0) w3 :=
    ⟨trivial, HT3.out, HD3.out, HH3.out, HF3.out.weaken (by simp) (by simp), HND.out, fun b hb => ⟨HDT.out b hb, fun e => HI.out (e ▸ hb)⟩, rfl, trivial, HV.out, by simp [lefts, rights, HL.out], by simp [lefts], by simp [rights], by simp, ⟨fun e => hDi e.symm, hDw⟩, HGB.out⟩
  have HST := Lib.hid hst
  obtain ⟨H0, hH0⟩ : ∃ H0, (T.nd b0 bal0 l0 k0 v0 r0).h = H0 := ⟨_, rfl⟩
  have HH0 := Lib.hid hH0
  clear hst hH0 HT3 HD3 HH3 HF3 HND HDT HI HV HL
  go_cut [6, 7, 10, 11] (fun s6 s7 s10 s11 wx => InsCut w i D b0 n G k L s6 s7 s10 s11 wx)
  case first =>
    go_wp2_with fail
    go_loopg [6, 7, 8, 9, 10, 11, 12] H0 (fun kk s6 s7 s8 s9 s10 s11 s12 wr => DownRel w i D b0 n G k L kk s6 s7 s11 wr)
    case atStart => exact ⟨[], [], b0, bal0, l0, k0, v0, r0, rfl, rfl, rfl, HST.out, .inl rfl, by rw [HH0.out]; exact Nat.le_refl _, fun h => absurd rfl h, fun h => absurd rfl h⟩
    case round =>
      clear HST HH0
      obtain ⟨pre, mid, b, bal, l, pk, pv, r, rfl, rfl, rfl, hst, hown, hkk, hp1, hp2⟩ := hrel
      obtain ⟨sb, hsb⟩ : ∃ sb, top mid (some ⟨b, 0, none⟩) = some ⟨sb, 0, none⟩ := by cases mid <;> exact ⟨_, rfl⟩
      rw [hsb]
      have HST := Lib.hid hst
      have HSB := Lib.hid hsb
      have HP1 := Lib.hid hp1
      have HP2 := Lib.hid hp2
      have HOW := Lib.hid hown
      obtain ⟨hb, hkb⟩ : ∃ h, hbl pre D = h := ⟨_, rfl⟩
      have HKB := Lib.hid hkb
      rw [hkb]
      have n0 : Nd wr b bal (ptr l) (ptr r) pk pv := hst.sub.1
      have c3 := Blk.cell n0 3 rfl
      have hm := meth_cmp
      clear hst hsb hp1 hp2 hown hkb n0
      go_wp2_with fail
      refine (compare_any pk pv k v _).mono ?_
      rintro e wc ⟨rfl, hbc⟩
      have HSC := Lib.hid (HST.out.next hbc)
      clear hbc c3 hm HST
      have n0 : Nd wc b bal (ptr l) (ptr r) pk pv := HSC.out.sub.1
      have c1 := Blk.cell n0 1 rfl
      have c2 := Blk.cell n0 2 rfl
      have c3 := Blk.cell n0 3 rfl
      have f1 := Blk.free n0 1
      have f2 := Blk.free n0 2
      have f3 := Blk.free n0 3
      have HN0 := Lib.hid n0
      clear n0
      by_cases hlt : k < pk
      · have HLT := Lib.hid hlt
        have hcm : cmp pk k = 1 := by unfold cmp; rw [if_neg (by omega), if_pos hlt]
        rw [hcm]
        clear hcm hlt
        go_wp2_with fail
        refine (norm_any 1 _).mono ?_
        rintro e w' ⟨rfl, rfl⟩
        have hnm : nrm 1 = 0 := by decide
        rw [hnm]
        clear hnm
        cases l with
        | nil =>
          have c1 : w'.cell? ⟨b, 1, none⟩ = some (.pointer none) := c1
          clear c3 f1 f2 f3 c2
          go_wp2_with fail
          go_meet
          refine ⟨pre, mid, ⟨b, bal, false, r, pk, pv⟩, rfl, ?_, rfl, by rw [HKB.out], ?_, ?_, ?_⟩
          · rw [top_append, ← HSB.out]; rfl
          · rw [← List.append_assoc]
            exact InsSt.down (f := ⟨b, bal, false, r, pk, pv⟩) (t := .nil) HSC.out (by simpa using HLT.out) HSR.out HOW.out
          · intro h; rw [firstBal_snoc]; exact HP1.out h
          · exact tail_snoc mid _ HP2.out
        | nd b2 bal2 l2 k2 v2 r2 =>
          have c1 : w'.cell? ⟨b, 1, none⟩ = some (.pointer (some ⟨b2, 0, none⟩)) := c1
          have hcp := copynode_any b2 bal2 (ptr l2) (ptr r2) k2 v2 w' HSC.out.sub.2.1.1
          have HCP := Lib.hid hcp
          obtain ⟨C, hC⟩ : ∃ C, w'.heap.size = C := ⟨_, rfl⟩
          have hbC : b < C := by rw [← hC]; exact Blk.lt HN0.out
          rw [hC] at HCP
          have HCE := Lib.hid hC
          have HDN := Lib.hid (InsSt.down (f := ⟨b, bal, false, r, pk, pv⟩) (t := .nd b2 bal2 l2 k2 v2 r2) HSC.out (by simpa using HLT.out) HSR.out HOW.out)
          have hwC : w.heap.size ≤ C := by rw [← hC]; exact HSC.out.fr.size
          clear hcp hC c3 f1 f2 f3 c2
          cases gk with
          | zero => simp only [T.h] at hkk; omega
          | succ kk =>
            go_wp2_with fail
            refine HCP.out.mono ?_
            rintro e wd ⟨rfl, hnc, hbd, hsd⟩
            replace hbd : Below w'.heap.size w' wd := by rw [HCE.out]; exact hbd
            have HCO := Lib.hid (HDN.out.copied hbd HCE.out.symm hnc)
            have n0 := HN0.out.below hbd
            have c1 : wd.cell? ⟨b, 1, none⟩ = some (.pointer (some ⟨b2, 0, none⟩)) := Blk.cell n0 1 rfl
            have f1 := Blk.free n0 1
            have hneC : ¬ b = C := by omega
            have hneC2 : ¬ C = b := by omega
            have d0 := Blk.cell hnc 0 rfl
            clear hbd hnc n0
            by_cases hz : bal2 = 0
            · have t0 : (bal2 != 0) = false := by rw [hz]; rfl
              have HZ := Lib.hid hz
              clear hz
              go_wp2_with fail
              go_roundg kk
              case measure => omega
              case rel =>
                refine ⟨pre, mid ++ [⟨b, bal, false, r, pk, pv⟩], C, bal2, l2, k2, v2, r2, rfl, ?_, by rw [HKB.out], ?_, .inr hwC, ?_, ?_, ?_⟩
                · rw [top_append, ← HSB.out]; rfl
                · rw [← List.append_assoc]; exact HCO.out
                · simp only [T.h] at hkk ⊢; omega
                · intro h; rw [firstBal_snoc]; exact HP1.out h
                · intro _; exact ⟨HZ.out, tail_snoc mid _ HP2.out⟩
            · have t0 : (bal2 != 0) = true := by rw [bne_iff_ne]; exact hz
              have HZ := Lib.hid hz
              clear hz
              go_wp2_with fail
              go_roundg kk
              case measure => omega
              case rel =>
                refine ⟨(pre ++ mid) ++ [⟨b, bal, false, r, pk, pv⟩], [], C, bal2, l2, k2, v2, r2, rfl, rfl, by rw [hbl_snoc], ?_, .inr hwC, ?_, ?_, ?_⟩
                · rw [List.append_nil]; exact HCO.out
                · simp only [T.h] at hkk ⊢; omega
                · intro h; exact HZ.out
                · intro h; exact absurd rfl h
      · by_cases hlt2 : pk < k
        · have HLT := Lib.hid hlt2
          have hcm : cmp pk k = -1 := by unfold cmp; rw [if_pos hlt2]
          rw [hcm]
          clear hcm hlt hlt2
          go_wp2_with fail
          refine (norm_any (-1) _).mono ?_
          rintro e w' ⟨rfl, rfl⟩
          have hnm : nrm (-1) = 1 := by decide
          rw [hnm]
          clear hnm
          cases r with
          | nil =>
            have c2 : w'.cell? ⟨b, 2, none⟩ = some (.pointer none) := c2
            clear c3 f1 f2 f3 c1
            go_wp2_with fail
            go_meet
            refine ⟨pre, mid, ⟨b, bal, true, l, pk, pv⟩, rfl, ?_, rfl, by rw [HKB.out], ?_, ?_, ?_⟩
            · rw [top_append, ← HSB.out]; rfl
            · rw [← List.append_assoc]
              exact InsSt.down (f := ⟨b, bal, true, l, pk, pv⟩) (t := .nil) HSC.out (by simpa using HLT.out) HSR.out HOW.out
            · intro h; rw [firstBal_snoc]; exact HP1.out h
            · exact tail_snoc mid _ HP2.out
          | nd b2 bal2 l2 k2 v2 r2 =>
            have c2 : w'.cell? ⟨b, 2, none⟩ = some (.pointer (some ⟨b2, 0, none⟩)) := c2
            have hcp := copynode_any b2 bal2 (ptr l2) (ptr r2) k2 v2 w' HSC.out.sub.2.2.1
            have HCP := Lib.hid hcp
            obtain ⟨C, hC⟩ : ∃ C, w'.heap.size = C := ⟨_, rfl⟩
            have hbC : b < C := by rw [← hC]; exact Blk.lt HN0.out
            rw [hC] at HCP
            have HCE := Lib.hid hC
            have HDN := Lib.hid (InsSt.down (f := ⟨b, bal, true, l, pk, pv⟩) (t := .nd b2 bal2 l2 k2 v2 r2) HSC.out (by simpa using HLT.out) HSR.out HOW.out)
            have hwC : w.heap.size ≤ C := by rw [← hC]; exact HSC.out.fr.size
            clear hcp hC c3 f1 f2 f3 c1
            cases gk with
            | zero => simp only [T.h] at hkk; omega
            | succ kk =>
              go_wp2_with fail
              refine HCP.out.mono ?_
              rintro e wd ⟨rfl, hnc, hbd, hsd⟩
              replace hbd : Below w'.heap.size w' wd := by rw [HCE.out]; exact hbd
              have HCO := Lib.hid (HDN.out.copied hbd HCE.out.symm hnc)
              have n0 := HN0.out.below hbd
              have c2 : wd.cell? ⟨b, 2, none⟩ = some (.pointer (some ⟨b2, 0, none⟩)) := Blk.cell n0 2 rfl
              have f2 := Blk.free n0 2
              have hneC : ¬ b = C := by omega
              have hneC2 : ¬ C = b := by omega
              have d0 := Blk.cell hnc 0 rfl
              clear hbd hnc n0
              by_cases hz : bal2 = 0
              · have t0 : (bal2 != 0) = false := by rw [hz]; rfl
                have HZ := Lib.hid hz
                clear hz
                go_wp2_with fail
                go_roundg kk
                case measure => omega
                case rel =>
                  refine ⟨pre, mid ++ [⟨b, bal, true, l, pk, pv⟩], C, bal2, l2, k2, v2, r2, rfl, ?_, by rw [HKB.out], ?_, .inr hwC, ?_, ?_, ?_⟩
                  · rw [top_append, ← HSB.out]; rfl
                  · rw [← List.append_assoc]; exact HCO.out
                  · simp only [T.h] at hkk ⊢; omega
                  · intro h; rw [firstBal_snoc]; exact HP1.out h
                  · intro _; exact ⟨HZ.out, tail_snoc mid _ HP2.out⟩
              · have t0 : (bal2 != 0) = true := by rw [bne_iff_ne]; exact hz
                have HZ := Lib.hid hz
                clear hz
                go_wp2_with fail
                go_roundg kk
                case measure => omega
                case rel =>
                  refine ⟨(pre ++ mid) ++ [⟨b, bal, true, l, pk, pv⟩], [], C, bal2, l2, k2, v2, r2, rfl, rfl, by rw [hbl_snoc], ?_, .inr hwC, ?_, ?_, ?_⟩
                  · rw [List.append_nil]; exact HCO.out
                  · simp only [T.h] at hkk ⊢; omega
                  · intro h; exact HZ.out
                  · intro h; exact absurd rfl h
        · obtain rfl : pk = k := by omega
          have hcm : cmp pk pk = 0 := by unfold cmp; rw [if_neg (by omega), if_neg (by omega)]
          rw [hcm]
          clear hcm
          go_wp2_with fail
          refine (norm_any 0 _).mono ?_
          rintro e w' ⟨rfl, rfl⟩
          have hnm : nrm 0 = -1 := by decide
          rw [hnm]
          clear hnm
          have HEQ := Lib.hid (InsSt.equal HSC.out HSR.out HNL.out HOW.out v)
          go_wp2_with fail
          go_ret
          exact HEQ.out
  case rest =>
    clear HST HH0
    obtain ⟨pre, gs, lst, rfl, rfl, rfl, rfl, hst, hp1, hp2⟩ := hcut
    obtain ⟨X, hX, hX1, hX2⟩ : ∃ X : Nat, (if lst.d then (1 : Int) else 0) = (X : Int) ∧ X < 2 ∧ (if lst.d then 2 else 1) = 1 + X := by
      cases lst.d
      · exact ⟨0, rfl, by omega, rfl⟩
      · exact ⟨1, rfl, by omega, rfl⟩
    rw [hX]
    obtain ⟨f, rest, hpost⟩ : ∃ f rest, gs ++ [lst] = f :: rest := by cases gs <;> exact ⟨_, _, rfl⟩
    have hin : lst ∈ f :: rest := by rw [← hpost]; simp
    have hsb : top (gs ++ [lst]) none = some ⟨f.b, 0, none⟩ := by rw [hpost]; rfl
    rw [hsb]
    have hnl : Nd wc lst.b lst.bal (if lst.d then ptr lst.sib else none) (if lst.d then none else ptr lst.sib) lst.k lst.v := by
      have h1 := hst.ctx
      rw [← List.append_assoc] at h1
      exact ((AtC_append wc (pre ++ gs) [lst] none).1 h1).2.1
    have hli : lst.b ≠ D ∧ lst.b ≠ i := hst.off lst.b (List.mem_append_left _ (by rw [cblocks_append, cblocks_append]; simp [cblocks]))
    obtain ⟨hb, hkb⟩ : ∃ h, hbl pre D = h := ⟨_, rfl⟩
    rw [hkb]
    have HKB := Lib.hid hkb
    have HST := Lib.hid hst
    have HP1 := Lib.hid hp1
    have HP2 := Lib.hid hp2
    have HX2 := Lib.hid hX2
    have HPO := Lib.hid hpost
    have HNL := Lib.hid hnl
    have HNQ := HNL
    have hh := hst.head
    have c0 := Blk.cell hh 0 rfl
    have f0 := Blk.free hh 0
    have c1 := Blk.cell hh 1 rfl
    have f1 := Blk.free hh 1
    have e1 : IntKind.u64.wrap ((n : Int) + 1) = ((n + 1 : Nat) : Int) := by simp only [IntKind.wrap, IntKind.signed, IntKind.bits]; simp; omega
    have hi1 : i < wc.heap.size := Blk.lt hh
    have hD1 : D < wc.heap.size := Blk.lt hst.dum
    have hl1 : lst.b < wc.heap.size := Blk.lt hnl
    clear hst hp1 hp2 hX hX2 hkb hpost hnl hh hsb hin
    go_wp2_with fail
    refine (newnode_any k v _).mono ?_
    rintro e wz ⟨rfl, hnz, hbz, hsz⟩
    have hsq : (wc.setCell ⟨i, 1, none⟩ (.int .u64 ((n : Int) + 1))).heap.size = wc.heap.size := by simp
    rw [hsq] at hnz hbz hsz ⊢
    obtain ⟨Q, hQ⟩ : ∃ Q, wc.heap.size = Q := ⟨_, rfl⟩
    have hbz' : Below wc.heap.size (wc.setCell ⟨i, 1, none⟩ (.int .u64 ((n + 1 : Nat) : Int))) wz := hbz
    have hst2 := HST.out
    rw [← List.append_assoc] at hst2
    have hbot := hst2.leaf hbz' hQ.symm (hQ ▸ hnz)
    rw [List.append_assoc, HX2.out] at hbot
    have HBOT := Lib.hid hbot
    have hbz2 : Below (wc.setCell ⟨i, 1, none⟩ (.int .u64 ((n : Int) + 1))).heap.size (wc.setCell ⟨i, 1, none⟩ (.int .u64 ((n : Int) + 1))) wz := by rw [hsq]; exact hbz
    have hnl : Nd wz lst.b lst.bal (if lst.d then ptr lst.sib else none) (if lst.d then none else ptr lst.sib) lst.k lst.v := (HNL.out.oth (a := ⟨i, 1, none⟩) hli.2 _).below hbz2
    obtain ⟨cv, hcv⟩ : ∃ cv, wz.cell? ⟨lst.b, 1 + X, none⟩ = some cv := by
      have : X = 0 ∨ X = 1 := by omega
      rcases this with rfl | rfl
      · exact ⟨_, Blk.cell hnl 1 rfl⟩
      · exact ⟨_, Blk.cell hnl 2 rfl⟩
    have hfv : wz.frozen? ⟨lst.b, 1 + X, none⟩ = false := Blk.free hnl (1 + X)
    have hhz : HdC wz i (some ⟨b0, 0, none⟩) (n + 1) := (Blk.set HST.out.head 1 (.int .u64 ((n : Int) + 1))).next hbz2
    have hdz : Nd0 wz D (some ⟨b0, 0, none⟩) := (Blk.other HST.out.dum (a := ⟨i, 1, none⟩) (fun e => hDi e.symm) _).next hbz2
    have c0 := Blk.cell hhz 0 rfl
    have f0 := Blk.free hhz 0
    have d2 : wz.cell? ⟨D, 2, none⟩ = some (.pointer (some ⟨b0, 0, none⟩)) := Blk.cell hdz 2 rfl
    have g1 : ¬ lst.b = D := hli.1
    have g2 : ¬ lst.b = i := hli.2
    have g3 : ¬ D = lst.b := fun e => hli.1 e.symm
    have g4 : ¬ i = lst.b := fun e => hli.2 e.symm
    have x1 : (X : Int) < 2 := by omega
    have x2 : (0 : Int) ≤ (X : Int) := by omega
    have HLI := Lib.hid hli
    rw [hQ]
    clear hst2 hbot hbz' hbz2 hnl hhz hdz c1 f1 e1 hnz hbz hsz hsq hQ HNL HNQ hli
    go_wp2_with fail
    rw [HPO.out] at HBOT HST HP1 HP2
    have HPQ := HPO
    obtain ⟨W1, hW1⟩ : ∃ W1, W1 = ((wz.setCell ⟨lst.b, 1 + X, none⟩ (.pointer (some ⟨Q, 0, none⟩))).setCell ⟨i, 0, none⟩ (.pointer (some ⟨b0, 0, none⟩))) := ⟨_, rfl⟩
    rw [← hW1] at HBOT ⊢
    clear hW1 hcv hfv c0 f0 d2 g1 g2 g3 g4 x1 x2 HLI HX2 hi1 hD1 hl1 c9 HPO HPQ
    go_loopg [6, 10] (rest.length + 1) (fun kk s6 s10 wr => AdjRel w i D b0 n G k v pre (f :: rest) Q kk s6 wr)
    case atStart => exact ⟨[], f :: rest, rfl, rfl, rfl, HBOT.out⟩
    case round =>
      clear HBOT
      obtain ⟨dn, td, hsp, rfl, hlen, hbot⟩ := hrel
      cases td with
      | nil =>
        have hdn : dn = f :: rest := by rw [hsp, List.append_nil]
        rw [hdn, List.append_nil] at hbot
        have HBO := Lib.hid hbot
        clear hbot hsp hlen hdn
        rw [show top [] (some ⟨Q, 0, none⟩) = some ⟨Q, 0, none⟩ from rfl]
        have hpn := neq_same wr ⟨Q, 0, none⟩
        have n0 : ∃ A B, Nd wr f.b f.adj.bal A B f.k f.v := ⟨_, _, ((AtC_append wr pre _ _).1 HBO.out.ctx).2.1⟩
        obtain ⟨A0, B0, n0⟩ := n0
        obtain ⟨SB, hSB⟩ : ∃ x, f.adj.bal = x := ⟨_, rfl⟩
        have hsv : -2 ≤ SB ∧ SB ≤ 2 := by
          have := VC_bal HST.out.vc f (by simp)
          rw [← hSB]
          unfold Fm.adj
          cases f.d <;> simp <;> omega
        rw [hSB] at n0
        have s0 := Blk.cell n0 0 rfl
        obtain ⟨FF, RR, hF, habs, hgt, -⟩ := abs_fact SB hsv.1 hsv.2
        have HABS := Lib.hid habs
        have HHSB := Lib.hid hSB
        obtain ⟨BIG, hBIG⟩ : ∃ x : Bool, decide (SB < -1 ∨ 1 < SB) = x := ⟨_, rfl⟩
        rw [hBIG] at hgt
        have HBIG := Lib.hid hBIG
        clear habs hSB n0 c0 f0 hBIG hsv
        go_wp2_with fail
        refine (HABS.out _).mono ?_
        rintro e w' ⟨rfl, rfl⟩
        go_upto_if 180 with fail
        have HP3 : Hid (pre ≠ [] → f.bal ≠ 0) := Lib.hid HP1.out
        have HP4 : Hid (∀ g ∈ rest, g.bal = 0) := Lib.hid HP2.out
        clear HP1 HP2
        go_cut [7, 10] (fun s7 s10 wx => RotCut w i D b0 n G k v pre f.b (plug (pre ++ f :: rest) (lf Q k v)).toL s7 wx)
        case first =>
          cases BIG with
          | false =>
            have hsm : ¬ (f.adj.bal < -1 ∨ 1 < f.adj.bal) := by have := HBIG.out; rw [HHSB.out]; simpa using this
            go_wp2_with fail
            go_meet
            obtain ⟨v1, v2⟩ := ins_small f rest Q k v ((VC_append pre (f :: rest) 0).1 HST.out.vc).2 HP4.out hsm
            obtain ⟨r1, r2⟩ := rot_pure (Q := Q) (k := k) (v := v) HST.out.vc HP3.out v1 v2 rfl
            exact ⟨_, f.b, rfl, by rw [ptr_plug]; rfl, HBO.out.rot, r1, r2⟩
          | true =>
            have hbg : f.adj.bal < -1 ∨ 1 < f.adj.bal := by have := HBIG.out; rw [HHSB.out]; simpa using this
            have HVF := Lib.hid ((VC_append pre (f :: rest) 0).1 HST.out.vc).2
            obtain ⟨b1, -, -, g, r2, rfl⟩ := ins_big f rest HVF.out hbg
            have HBG := Lib.hid hbg
            have HB1 := Lib.hid b1
            have n0 : ∃ A B, Nd w' f.b f.adj.bal A B f.k f.v := ⟨_, _, ((AtC_append w' pre _ _).1 HBO.out.ctx).2.1⟩
            obtain ⟨A0, B0, n0⟩ := n0
            have c3 := Blk.cell n0 3 rfl
            have hm := meth_cmp
            have hnm : nrm (cmp f.k k) = if f.d then 1 else 0 := by
              have h1 : f ∈ pre ++ f :: g :: r2 := by simp
              cases hd : f.d with
              | true => have := HST.out.lt _ (side_l _ f h1 hd); unfold cmp; rw [if_pos this]; rfl
              | false => have := HST.out.gt _ (side_r _ f h1 hd); unfold cmp; rw [if_neg (by simp only at this; omega), if_pos this]; rfl
            have hturn := fun w' h => turn_any w i D b0 n G k v pre f g r2 Q w' h HVF.out HP4.out hbg
            obtain ⟨Z, hZ⟩ : ∃ Z : Int, (if f.d then (1 : Int) else 0) = Z := ⟨_, rfl⟩
            rw [hZ] at hnm hturn
            have HTU := Lib.hid hturn
            have HNM := Lib.hid hnm
            clear n0 hbg b1 hnm s0 hF hgt hpn hturn hZ
            go_wp2_with fail
            refine (compare_any f.k f.v k v _).mono ?_
            rintro e wd ⟨rfl, hbd⟩
            have HBC := Lib.hid (HBO.out.next hbd)
            clear hbd c3 hm
            go_wp2_with fail
            refine (norm_any (cmp f.k k) _).mono ?_
            rintro e w' ⟨rfl, rfl⟩
            rw [HNM.out]
            go_wp2_with fail
            refine (HTU.out _ HBC.out).mono ?_
            rintro e we ⟨S, c, rfl, hc, hS, hrot⟩
            go_wp2_with fail
            go_meet
            obtain ⟨t1, t2, t3, -⟩ := ins_turn f g r2 Q k v HVF.out HP4.out HBG.out
            obtain ⟨q1, q2⟩ := rot_pure (Q := Q) (k := k) (v := v) (S := S) HST.out.vc HP3.out (by rw [hS]; exact t1) (by rw [hS, t2, if_neg HB1.out]; rfl) (by rw [hS]; exact t3)
            exact ⟨S, c, rfl, hc, hrot, q1, q2⟩
        case rest =>
          obtain ⟨S, c, rfl, hc, hrot, hV, hL⟩ := hcut
          have hput := put_new k v (pre ++ f :: rest) Q L HST.out.list HST.out.lt HST.out.gt _ hL
          obtain ⟨hP, hLn⟩ := hput
          rw [← HNL.out] at hLn
          have HP5 := Lib.hid hP
          have HL5 := Lib.hid hLn
          have HV5 := Lib.hid hV
          have HRT := Lib.hid hrot
          have HC5 := Lib.hid hc
          have hd0 : wc.cell? ⟨D, 2, none⟩ = some (.pointer (some ⟨b0, 0, none⟩)) := Blk.cell hrot.dum 2 rfl
          have hh0 := Blk.cell hrot.head 0 rfl
          have hf0 := Blk.free hrot.head 0
          clear hP hLn hV hL hpn s0 hF hgt HBO HABS HHSB HBIG HST HP3 HP4
          have hcon : pre = [] ∨ ∃ p' g, pre = p' ++ [g] := by
            rcases List.eq_nil_or_concat pre with h | ⟨p', g, h⟩
            · exact .inl h
            · exact .inr ⟨p', g, by rw [h, List.concat_eq_append]⟩
          rcases hcon with rfl | ⟨p', g, rfl⟩
          · have hfb : f.b = b0 := by
              have := hrot.root
              injection this with this
              injection this
            rw [hfb] at HRT ⊢
            have hpe := eql_same wc ⟨b0, 0, none⟩
            clear hrot hc hfb
            go_wp2_with fail
            go_ret
            have := RotSt.done0 HRT.out HV5.out HP5.out HL5.out
            rw [HC5.out] at this
            exact this
          · have hnd := hrot.nd
            rw [List.nodup_append] at hnd
            obtain ⟨⟨cs1, k1⟩, k2⟩ := atc_first hrot.ctx (by simp) hrot.root
            obtain ⟨cs2, k3⟩ := at_blk hrot.sub hrot.fbm
            have hne : f.b ≠ b0 := fun e => hnd.2.2 b0 k2 f.b hrot.fbm e.symm
            have hpe := eql_other k3 k1 hne
            obtain ⟨-, hg, hgs, -⟩ := (AtC_append wc p' [g] _).1 hrot.ctx
            have hg : Nd wc g.b g.bal (if g.d then ptr g.sib else some ⟨f.b, 0, none⟩) (if g.d then some ⟨f.b, 0, none⟩ else ptr g.sib) g.k g.v := hg
            obtain ⟨V2, hV2⟩ : ∃ V2, (if g.d then some ⟨f.b, 0, none⟩ else ptr g.sib) = V2 := ⟨_, rfl⟩
            have hV3 : ∀ w'' : World, w''.heap = wc.heap → (binOp .eql 88 (.pointer V2) (.pointer (some ⟨f.b, 0, none⟩))).run Try.prog w'' = .ok (.bool g.d) w'' := by
              intro w'' hw
              have k3' : Blk w'' f.b 94 cs2 := by show w''.heap[_]? = _; rw [hw]; exact k3
              rw [← hV2]
              cases hd : g.d with
              | true => exact eql_same w'' ⟨f.b, 0, none⟩
              | false =>
                cases hq : g.sib with
                | nil => exact eql_nill w'' _
                | nd b2 _ _ _ _ _ =>
                  rw [hq] at hgs
                  refine eql_other (ca := _) (show Blk w'' b2 _ _ by show w''.heap[_]? = _; rw [hw]; exact hgs.1) k3' fun e => hnd.2.2 b2 ?_ f.b hrot.fbm e
                  rw [cblocks_append]; simp [cblocks, hq, T.blocks]
            rw [hV2] at hg
            obtain ⟨X2, hX2, hX3, hX4⟩ : ∃ X : Nat, (if g.d then (1 : Int) else 0) = (X : Int) ∧ X < 2 ∧ (if g.d then 2 else 1) = 1 + X := by
              cases g.d
              · exact ⟨0, rfl, by omega, rfl⟩
              · exact ⟨1, rfl, by omega, rfl⟩
            have c2 := Blk.cell hg 2 rfl
            obtain ⟨cv2, hcv2⟩ : ∃ cv, wc.cell? ⟨g.b, 1 + X2, none⟩ = some cv := by
              have : X2 = 0 ∨ X2 = 1 := by omega
              rcases this with rfl | rfl
              · exact ⟨_, Blk.cell hg 1 rfl⟩
              · exact ⟨_, Blk.cell hg 2 rfl⟩
            have hfv2 : wc.frozen? ⟨g.b, 1 + X2, none⟩ = false := Blk.free hg (1 + X2)
            have x1 : (X2 : Int) < 2 := by omega
            have x2 : (0 : Int) ≤ (X2 : Int) := by omega
            have hib := fun w' => ifb_any g.d w'
            rw [hX2] at hib
            have HIB := Lib.hid hib
            have HX4 := Lib.hid hX4
            have hkb : hb = g.b := by rw [← HKB.out, hbl_snoc]
            rw [hkb]
            obtain ⟨gd, hgd⟩ : ∃ x, g.d = x := ⟨_, rfl⟩
            rw [hgd] at hV3 HIB
            have hV4 := Lib.hid (hV3 wc.drew rfl)
            have hV5 := hV3 wc rfl
            clear hV3
            clear hrot hc hnd k1 k2 k3 hne hg hgs hV2 hX2 hX4 hib hkb hgd hX3
            go_wp2_with fail
            refine wp_region_still_tail 12 (by kernel_rfl) (by kernel_rfl) ?_
            simp only [List.take_succ_cons, List.take_zero, List.drop_succ_cons, List.drop_zero]
            repeat still_step
            refine wpStill_step (fun K hK => ?_)
            go_simp
            rw [hV4.out]
            refine ⟨rfl, hK _ ?_⟩
            clear hK K
            still_call (HIB.out _)
            repeat still_step
            refine wpStill_nil ?_
            change wpList _ _ _ _ _ wc.drew
            clear hV4 hV5
            go_wp2_with fail
            go_ret
            have := RotSt.done1 HRT.out HV5.out HP5.out HL5.out
            rw [HC5.out, HX4.out] at this
            exact this.drew
      | cons g td =>
        have hmem : g ∈ pre ++ f :: rest := by rw [hsp]; simp
        have hs : (g.d = true → g.k < k) ∧ (g.d = false → k < g.k) := ⟨fun h => HST.out.lt _ (side_l _ g hmem h), fun h => HST.out.gt _ (side_r _ g hmem h)⟩
        have hvg : -1 ≤ g.bal ∧ g.bal ≤ 1 := VC_bal HST.out.vc g hmem
        obtain ⟨hv1, hv2⟩ := hvg
        have hgQ : g.b ≠ Q := by
          have h1 := hbot.nd
          rw [List.nodup_append] at h1
          exact h1.2.2 g.b (by rw [cblocks_append, cblocks_append]; simp [cblocks]) Q (by simp)
        have hgQ' : ¬ g.b = Q := hgQ
        have n0 : ∃ A B, Nd wr g.b g.bal A B g.k g.v := ⟨_, _, (((AtC_append wr _ (g :: td) _).1 ((AtC_append wr pre _ _).1 hbot.ctx).2).2.1)⟩
        obtain ⟨A0, B0, n0⟩ := n0
        have c3 := Blk.cell n0 3 rfl
        have hm := meth_cmp
        have HB0 := Lib.hid hbot
        have HSP := Lib.hid hsp
        clear hbot hmem hsp
        cases gk with
        | zero => simp at hlen
        | succ kk =>
        rw [show top (g :: td) (some ⟨Q, 0, none⟩) = some ⟨g.b, 0, none⟩ from rfl]
        have hpn := neq_other n0 HB0.out.leaf hgQ
        clear n0
        go_wp2_with fail
        refine (compare_any g.k g.v k v _).mono ?_
        rintro e wd ⟨rfl, hbd⟩
        have HBC := Lib.hid (HB0.out.next hbd)
        clear hbd c3 hm HB0 hpn
        cases hgd : g.d
        · skip
          have HS := Lib.hid (hs.2 hgd)
          have hA : IntKind.i8.wrap (g.bal - 1) = g.adj.bal := by
            have e : g.adj.bal = g.bal - 1 := by unfold Fm.adj; rw [hgd]; simp; omega
            rw [e]
            simp only [IntKind.wrap, IntKind.signed, IntKind.bits]
            simp
            omega
          have ng : Nd wd g.b g.bal (top td (some ⟨Q, 0, none⟩)) (ptr g.sib) g.k g.v := by
            have := ((AtC_append wd pre _ _).1 HBC.out.ctx).2
            have := ((AtC_append wd _ (g :: td) _).1 this).2.1
            rw [hgd] at this
            exact this
          have c0 := Blk.cell ng 0 rfl
          have f0 := Blk.free ng 0
          have cx := Blk.cell ng 1 rfl
          have hcm : cmp g.k k = 1 := by unfold cmp; rw [if_neg (by have := HS.out; omega), if_pos HS.out]
          rw [hcm]
          obtain ⟨A, hAA⟩ : ∃ A, g.adj.bal = A := ⟨_, rfl⟩
          rw [hAA] at hA
          have HAA := Lib.hid hAA
          obtain ⟨gb, hgb⟩ : ∃ x, g.bal = x := ⟨_, rfl⟩
          rw [hgb] at hA c0
          clear ng hcm hs hgd hgb hv1 hv2 hAA
          go_wp2_with fail
          refine (norm_any (1) _).mono ?_
          rintro e w' ⟨rfl, rfl⟩
          have hnm : nrm (1) = 0 := by decide
          rw [hnm]
          clear hnm
          go_wp2_with fail
          go_roundg kk
          case measure => omega
          case rel =>
            have h1 := HBC.out
            rw [← List.append_assoc] at h1
            have h2 := h1.adjust
            refine ⟨dn ++ [g], td, by rw [HSP.out]; simp, rfl, by simpa using hlen, ?_⟩
            rw [HAA.out, List.append_assoc] at h2
            simpa using h2
        · skip
          have HS := Lib.hid (hs.1 hgd)
          have hA : IntKind.i8.wrap (g.bal + 1) = g.adj.bal := by
            have e : g.adj.bal = g.bal + 1 := by unfold Fm.adj; rw [hgd]; simp
            rw [e]
            simp only [IntKind.wrap, IntKind.signed, IntKind.bits]
            simp
            omega
          have ng : Nd wd g.b g.bal (ptr g.sib) (top td (some ⟨Q, 0, none⟩)) g.k g.v := by
            have := ((AtC_append wd pre _ _).1 HBC.out.ctx).2
            have := ((AtC_append wd _ (g :: td) _).1 this).2.1
            rw [hgd] at this
            exact this
          have c0 := Blk.cell ng 0 rfl
          have f0 := Blk.free ng 0
          have cx := Blk.cell ng 2 rfl
          have hcm : cmp g.k k = -1 := by unfold cmp; rw [if_pos HS.out]
          rw [hcm]
          obtain ⟨A, hAA⟩ : ∃ A, g.adj.bal = A := ⟨_, rfl⟩
          rw [hAA] at hA
          have HAA := Lib.hid hAA
          obtain ⟨gb, hgb⟩ : ∃ x, g.bal = x := ⟨_, rfl⟩
          rw [hgb] at hA c0
          clear ng hcm hs hgd hgb hv1 hv2 hAA
          go_wp2_with fail
          refine (norm_any (-1) _).mono ?_
          rintro e w' ⟨rfl, rfl⟩
          have hnm : nrm (-1) = 1 := by decide
          rw [hnm]
          clear hnm
          go_wp2_with fail
          go_roundg kk
          case measure => omega
          case rel =>
            have h1 := HBC.out
            rw [← List.append_assoc] at h1
            have h2 := h1.adjust
            refine ⟨dn ++ [g], td, by rw [HSP.out]; simp, rfl, by simpa using hlen, ?_⟩
            rw [HAA.out, List.append_assoc] at h2
            simpa using h2
end Go.Proofs.Ytidekgmpbcnfmaa
