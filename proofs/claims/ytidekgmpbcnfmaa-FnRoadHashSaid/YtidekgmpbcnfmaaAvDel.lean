/- The walk of the deletion of one entry of an AVL tree. -/
import Derived.Test.YtidekgmpbcnfmaaAvDelSt3
import Derived.Test.YtidekgmpbcnfmaaAvIns
import Derived.Test.YtidekgmpbcnfmaaAvOps
import Derived.Deep.DeepCutAuto
import Derived.Deep.CutBlock
import Derived.Deep.CutRange
import Derived.Deep.LoopGhost
import Derived.Deep.RegionLaw
import Derived.Deep.QuietTactic
namespace Go.Proofs.Ytidekgmpbcnfmaa
set_option linter.unusedVariables false
open Go.RowKit Avm

theorem info_pnode : (Try.prog.info? 88).map (fun i => (i.zero, i.size, i.bytes)) = some (some (.pointer none), 1, 8) := by kernel_rfl
theorem info_i64 : (Try.prog.info? 3).map (fun i => (i.zero, i.size, i.bytes)) = some (some (.int .i64 0), 1, 8) := by kernel_rfl

/-- what a deletion of key k does: a tree without it, what was there -/
def DelPost (w : World) (i : Nat) (T0 : T) (k : Int) (e : Ending) (w' : World) : Prop :=
  ∃ t', e = .returned (ovv k (look T0.toL k)) ∧ Tr w' i t' ∧ t'.toL = T0.toL.filter (fun x => decide (x.1 ≠ k)) ∧ Fr (i :: T0.blocks) [] w w' ∧ ∀ b ∈ t'.blocks, b ∈ T0.blocks ∨ w.heap.size ≤ b

/-- on the way down -/
def SrchRel (w : World) (i n C D dn : Nat) (k : Int) (T0 : T) (kk : Nat) (s6 s9 : Value) (wr : World) : Prop :=
  ∃ (fs : List Fm) (t : T), s6 = .pointer (ptr t) ∧ s9 = .int .i64 (fs.length : Int) ∧ plug fs t = T0 ∧ AtC wr fs (ptr t) ∧ At wr t ∧ (∀ x ∈ lefts fs, x.1 < k) ∧ (∀ x ∈ rights fs, k < x.1) ∧ t.h ≤ kk ∧ fs.length + t.h ≤ 50 ∧
    Hd wr i (ptr T0) n ∧ Ar wr w.heap.size C D fs ∧ Blk wr dn 3 #[.int .i64 0] ∧ Below w.heap.size w wr
/-- found -/
def FoundRel (w : World) (i n C D dn : Nat) (k : Int) (T0 : T) (s6 s9 : Value) (wr : World) : Prop :=
  ∃ (fs : List Fm) (b : Nat) (bal : Int) (l : T) (v : Int) (r : T), s6 = .pointer (some ⟨b, 0, none⟩) ∧ s9 = .int .i64 (fs.length : Int) ∧ plug fs (.nd b bal l k v r) = T0 ∧ AtC wr fs (some ⟨b, 0, none⟩) ∧ At wr (.nd b bal l k v r) ∧ (∀ x ∈ lefts fs, x.1 < k) ∧ (∀ x ∈ rights fs, k < x.1) ∧ fs.length + (T.nd b bal l k v r).h ≤ 50 ∧
    Hd wr i (ptr T0) n ∧ Ar wr w.heap.size C D fs ∧ Blk wr dn 3 #[.int .i64 0] ∧ Below w.heap.size w wr

/-- the branch is copied, node by node -/
def CopyRel (w : World) (i M C D dn : Nat) (T0 : T) (fs : List Fm) (t : T) (kk : Nat) (s15 : Value) (wr : World) : Prop :=
  ∃ (p q : List Fm) (y : Nat), s15 = .int .i64 (p.length : Int) ∧ q.length = kk ∧ Same (p ++ q) fs ∧ DSt w i T0.blocks M C D dn 0 (p ++ q) (some ⟨y, 0, none⟩) t.blocks wr ∧ At wr t ∧ (q ≠ [] → some (⟨y, 0, none⟩ : Addr) = ptr t)

/-- the first node of a path -/
def ChildOf (q : List Fm) (x : Option Addr) (cb : Nat) (cbal : Int) (cl cr : Option Addr) (ck cv : Int) : Prop :=
  match q with
  | [] => True
  | g :: q' => cb = g.b ∧ cbal = g.bal ∧ cl = (if g.d then ptr g.sib else top q' x) ∧ cr = (if g.d then top q' x else ptr g.sib) ∧ ck = g.k ∧ cv = g.v

theorem del_list {T0 : T} {fs : List Fm} {b : Nat} {bal : Int} {l : T} {k v : Int} {r : T} (hpl : plug fs (.nd b bal l k v r) = T0) (hs : Srt T0.toL) (h1 : ∀ x ∈ lefts fs, x.1 < k) (h2 : ∀ x ∈ rights fs, k < x.1) :
    T0.toL.filter (fun x => decide (x.1 ≠ k)) = lefts fs ++ l.toL ++ (r.toL ++ rights fs) ∧ look T0.toL k = some v ∧ T0.toL.length = (lefts fs ++ l.toL ++ (r.toL ++ rights fs)).length + 1 := by
  have e1 : T0.toL = (lefts fs ++ l.toL) ++ (k, v) :: (r.toL ++ rights fs) := by rw [← hpl, toL_plug]; simp [T.toL]
  rw [e1] at hs
  have h3 := List.pairwise_append.1 hs
  have h4 : ∀ x ∈ lefts fs ++ l.toL, x.1 < k := fun x hx => h3.2.2 x hx (k, v) (by simp)
  have h5 : ∀ x ∈ r.toL ++ rights fs, k < x.1 := fun x hx => (List.pairwise_cons.1 h3.2.1).1 x hx
  refine ⟨by rw [e1, delS_mid h4 h5], by rw [e1]; exact look_mid fun x hx => by have := h4 x hx; omega, by rw [e1]; simp; omega⟩

/-- on the way to the heir -/
def HeirRel (w : World) (i M C D dn : Nat) (T0 : T) (p : List Fm) (y b' : Nat) (bal : Int) (l : T) (k v : Int) (r : T) (plen : Nat) (kk : Nat) (s9 s17 : Value) (wr : World) : Prop :=
  ∃ (hs : List Fm) (hb : Nat) (hbal : Int) (tl : T) (hk hv : Int) (tr : T), s9 = .int .i64 ((plen + 1 + hs.length : Nat) : Int) ∧ s17 = .pointer (some ⟨hb, 0, none⟩) ∧ HSt w i T0.blocks M C D dn 0 p (some ⟨y, 0, none⟩) b' bal l k v hs (.nd hb hbal tl hk hv tr) wr ∧ plug hs (.nd hb hbal tl hk hv tr) = r ∧ lefts hs = [] ∧ tl.h ≤ kk

/-- what is left to balance: below the path fs the tree t, which has lost a level -/
def RebRel (w : World) (i M C D dn : Nat) (T0 : T) (k : Int) (s9 : Value) (wr : World) : Prop :=
  ∃ (fs : List Fm) (t : T), s9 = .int .i64 (fs.length : Int) ∧ DSt w i T0.blocks M C D dn 0 fs (ptr t) t.blocks wr ∧ At wr t ∧ V t ∧ VC fs (t.h + 1) ∧ lefts fs ++ t.toL ++ rights fs = T0.toL.filter (fun x => decide (x.1 ≠ k)) ∧ fs.length ≤ 60

/-- on the way up -/
def UpRel (w : World) (i M C D dn : Nat) (T0 : T) (k : Int) (kk : Nat) (s9 : Value) (wr : World) : Prop :=
  ∃ (fs : List Fm) (t : T) (stop : Bool), s9 = .int .i64 (fs.length : Int) ∧ DSt w i T0.blocks M C D dn (if stop then 1 else 0) fs (ptr t) t.blocks wr ∧ At wr t ∧ V t ∧ VC fs (t.h + if stop then 0 else 1) ∧ lefts fs ++ t.toL ++ rights fs = T0.toL.filter (fun x => decide (x.1 ≠ k)) ∧ fs.length ≤ 60 ∧ fs.length ≤ kk
theorem del_end {w wr : World} {i M C D dn : Nat} {T0 : T} {k : Int} {dv : Int} {fs : List Fm} {t : T} (h : DSt w i T0.blocks M C D dn dv fs (ptr t) t.blocks wr) (ht : At wr t) (hv : V t) (hc : VC fs t.h) (hl : lefts fs ++ t.toL ++ rights fs = T0.toL.filter (fun x => decide (x.1 ≠ k))) (hs : Srt T0.toL) (hM : (T0.toL.filter (fun x => decide (x.1 ≠ k))).length = M) :
    DelPost w i T0 k (.returned (ovv k (look T0.toL k))) wr :=
  ⟨plug fs t, rfl, ⟨by rw [toL_plug, hl, hM, ptr_plug]; exact h.head, (at_plug _ _ _).2 ⟨h.ctx, ht⟩, (plug_blocks fs t).symm.nodup h.nd, (V_plug _ _).2 ⟨hc, hv⟩, by rw [toL_plug, hl]; exact hs.filter _⟩, by rw [toL_plug, hl], h.fr, fun b hb => h.old b ((plug_blocks fs t).mem_iff.1 hb)⟩
theorem rem_low {w : World} {f : Fm} {t : T} {dn X : Nat} (hX : (if f.d then (1 : Int) else 0) = (X : Int)) (h : At w (f.low.put t)) (hnd : (f.low.put t).blocks.Nodup) (hh : f.sib.h = t.h + 2) (vt : V t) (vs : V f.sib) (hd : Blk w dn 3 #[.int .i64 0]) :
    Calls Try.prog 52 #[.pointer (some ⟨f.b, 0, none⟩), .int .i64 (X : Int), .pointer (some ⟨dn, 0, none⟩)] w (RemPost w dn (f.low.put t) f.sib.h) := by
  have hdn : dn ∉ (f.low.put t).blocks := fun e => by
    obtain ⟨cs, hk⟩ := at_blk h e
    exact Nd.dn hk hd rfl
  rw [← hX]
  cases hf : f.d with
  | false =>
    have e : f.low.put t = .nd f.b f.low.bal t f.k f.v f.sib := by unfold Fm.put; rw [show f.low.d = false from hf]; rfl
    rw [e] at h hnd hdn ⊢
    exact rembal0_any f.b dn _ t f.sib f.k f.v w h hnd hh vt vs hd hdn
  | true =>
    have e : f.low.put t = .nd f.b f.low.bal f.sib f.k f.v t := by unfold Fm.put; rw [show f.low.d = true from hf]; rfl
    rw [e] at h hnd hdn ⊢
    exact rembal1_any f.b dn _ t f.sib f.k f.v w h hnd hh vt vs hd hdn

def isNil : T → Bool
  | .nil => true
  | .nd .. => false

/-- two stores into the stacks -/
theorem stk_fr (w : World) (C D j : Nat) (u v : Value) : Fr [C, D] [] w ((w.setCell ⟨D, j, none⟩ u).setCell ⟨C, j, none⟩ v) :=
  rem_of0 (rem_of0 (rem_refl0 _ w) (Fr.store w (F := [D]) (a := ⟨D, j, none⟩) (by simp) u) (fun x hx => .inl (by simp at hx; simp [hx]))) (Fr.store _ (F := [C]) (a := ⟨C, j, none⟩) (by simp) v) (fun x hx => .inl (by simp at hx; simp [hx]))
theorem two_ge {G C D : Nat} (h1 : G ≤ C) (h2 : G ≤ D) : ∀ x ∈ [C, D], G ≤ x := by simp; exact ⟨h1, h2⟩
theorem Ar.at_ne {wr : World} {G C D : Nat} {fs : List Fm} (h : Ar wr G C D fs) {t : T} (ht : At wr t) : ∀ b ∈ t.blocks, b ∉ [C, D] := fun b hb e => by
  obtain ⟨cs, hk⟩ := at_blk ht hb
  have := h.ne hk (by decide) (by decide)
  simp only [List.mem_cons, List.not_mem_nil, or_false] at e
  rcases e with e | e
  · exact this.1 e
  · exact this.2 e
theorem Ar.atc_ne {wr : World} {G C D : Nat} {fs gs : List Fm} {x : Option Addr} (h : Ar wr G C D fs) (ht : AtC wr gs x) : ∀ b ∈ cblocks gs, b ∉ [C, D] := fun b hb e => by
  obtain ⟨cs, hk⟩ := AtC.blk ht hb
  have := h.ne hk (by decide) (by decide)
  simp only [List.mem_cons, List.not_mem_nil, or_false] at e
  rcases e with e | e
  · exact this.1 e
  · exact this.2 e

set_option maxRecDepth 100000 in
set_option maxHeartbeats 32000000 in
theorem delete_any (i : Nat) (T0 : T) (k v0 : Int) (w : World) (h : Tr w i T0) (hn : T0.toL.length ≤ 200000) :
    Calls Try.prog 41 #[.pointer (some ⟨i, 0, none⟩), .iface 99 (.agg #[.int .i64 k, .int .i64 v0])] w fun e w' => DelPost w i T0 k e w' := by
  have hh40 := h_small T0 h.v hn
  have HT := Lib.hid h
  obtain ⟨db, dl, dr, hh⟩ := h.head
  have c0 := hh.cell 0 rfl
  have HH := Lib.hid hh
  have hlt := hh.lt
  obtain ⟨L, hL⟩ : ∃ L, T0.toL.length = L := ⟨_, rfl⟩
  rw [hL] at hn HH
  have HL := Lib.hid hL
  cases hT0 : T0 with
  | nil =>
    rw [hT0] at c0
    have c0 : w.cell? ⟨i, 0, none⟩ = some (.pointer none) := c0
    have HT2 : Hid (T0 = .nil) := Lib.hid hT0
    clear h hh hL hT0 hh40
    go_enter Try.func41, Try.ntmps41
    go_wp2_with fail
    go_ret
    have h1 := HT.out
    rw [HT2.out] at h1
    exact ⟨.nil, rfl, h1, rfl, rem_refl0 _ _, fun b hb => by cases hb⟩
  | nd b0 bal0 l0 k1 v1 r0 =>
    rw [← hT0]
    have hp0 : ptr T0 = some ⟨b0, 0, none⟩ := by rw [hT0]; rfl
    have HP0 := Lib.hid hp0
    rw [hp0] at c0
    have c0 : w.cell? ⟨i, 0, none⟩ = some (.pointer (some ⟨b0, 0, none⟩)) := c0
    have hself : w.heap.size ≤ w.heap.size := Nat.le_refl _
    clear h hh hL hT0
    go_enter Try.func41, Try.ntmps41
    go_upto_block 0 with (at_make; first
      | (refine wpList_make1 rfl _ _ 110 rfl w.heap.size 88 (.pointer none) 8 Try.underlying110 info_pnode rfl _ _ _ _ 64 rfl rfl rfl rfl (by omega) (by unfold maxLen; omega) hself ?_; intro w1 hown1 hb1 hs1; have HOW1 := Lib.hid hown1; have HB1 := Lib.hid hb1; have hs1' := HB1.out.size; clear hown1 hb1 hs1)
      | (refine wpList_make1 rfl _ _ 26 rfl w.heap.size 3 (.int .i64 0) 8 Try.underlying26 info_i64 rfl _ _ _ _ 64 rfl rfl rfl rfl (by omega) (by unfold maxLen; omega) (by rw [World.size_alloc]; omega) ?_; intro w2 hown2 hb2 hs2; have HOW2 := Lib.hid hown2; have HB2 := Lib.hid hb2; have hs2' := HB2.out.size; clear hown2 hb2 hs2; have c02 : w2.cell? ⟨i, 0, none⟩ = some (.pointer (some ⟨b0, 0, none⟩)) := (((HB1.out.alloc hs1' (.cells #[.int .i64 0] 3)).trans (HB2.out.mono (by rw [World.size_alloc]; omega))).cell hlt).trans c0)
      | fail)
    have hbw : Below w.heap.size w w2 := (HB1.out.alloc hs1' (.cells #[.int .i64 0] 3)).trans (HB2.out.mono (by rw [World.size_alloc]; omega))
    have hkd : Blk w2 w1.heap.size 3 #[.int .i64 0] := (Blk.new w1 3 #[.int .i64 0]).next HB2.out
    have hoc := (Fr.of_below [] HB2.out).own (HOW1.out.alloc (.cells #[.int .i64 0] 3)) (fun _ _ h => by cases h)
    obtain ⟨C, hC⟩ : ∃ C, w.heap.size = C := ⟨_, rfl⟩
    obtain ⟨dn, hdn⟩ : ∃ dn, w1.heap.size = dn := ⟨_, rfl⟩
    have hD1 : (w1.alloc (.cells #[.int .i64 0] 3)).heap.size = dn + 1 := by rw [World.size_alloc, hdn]
    obtain ⟨D, hD⟩ : ∃ D, dn + 1 = D := ⟨_, rfl⟩
    have hdw : w.heap.size ≤ dn := by omega
    have hod := HOW2.out
    rw [hdn] at hkd
    have har : Ar w2 w.heap.size C D [] := ⟨_, _, by rw [← hC]; exact hoc, by rw [← hD, ← hD1]; exact hod, fun j f hf => by simp at hf⟩
    have hdiff : (dn ≠ C ∧ dn ≠ D ∧ dn ≠ i) ∧ i ≠ C ∧ i ≠ D := by
      have l1 : w.heap.size < w1.heap.size := (own_lt HOW1.out w.heap.size (by simp [obl_some])).1
      omega
    have HAR := Lib.hid har
    have HKD := Lib.hid hkd
    have HBW := Lib.hid hbw
    have HDF := Lib.hid hdiff
    have HDW := Lib.hid hdw
    clear hbw hkd hoc hod har hdiff HOW1 HOW2 HB1 HB2 c0 hself hdw
    rw [hC]
    rw [hdn]
    rw [hD]
    have HCW := Lib.hid hC
    clear hC hdn hD hD1 hs1' hs2'
    obtain ⟨H0, hH0⟩ : ∃ H0, T0.h = H0 := ⟨_, rfl⟩
    have HH0 := Lib.hid hH0
    have HH40 := Lib.hid hh40
    clear hH0 hh40 hp0
    go_cut [6, 9, 11, 12] (fun s6 s9 s11 s12 wx => FoundRel w i L C D dn k T0 s6 s9 wx)
    case first =>
      -- [[A
      as_aux_lemma =>
      go_wp2_with fail
      go_loopg [6, 9, 11, 12] H0 (fun kk s6 s9 s11 s12 wr => SrchRel w i L C D dn k T0 kk s6 s9 wr)
      case atStart => exact ⟨[], T0, by rw [HP0.out], rfl, rfl, trivial, HT.out.sub.below HBW.out, by simp [lefts], by simp [rights], by rw [HH0.out]; exact Nat.le_refl _, by have := HH40.out; simp only [List.length_nil]; omega, ⟨_, _, _, HH.out.next HBW.out⟩, HAR.out, HKD.out, HBW.out⟩
      case round =>
        clear HAR HKD HBW HH c02
        obtain ⟨fs, t, rfl, rfl, hpl, hctx, hat, hlf, hrt, hkk, hdep, hhd, har, hkd, hbel⟩ := hrel
        have HPL := Lib.hid hpl
        have HCTX := Lib.hid hctx
        have HAT := Lib.hid hat
        have HLF := Lib.hid hlf
        have HRT := Lib.hid hrt
        have HHD := Lib.hid hhd
        have HAR := Lib.hid har
        have HKD := Lib.hid hkd
        have HB := Lib.hid hbel
        clear hpl hctx hat hlf hrt hhd har hkd hbel
        cases t with
        | nil =>
          rw [show ptr T.nil = none from rfl]
          go_wp2_with fail
          go_ret
          have hno : ∀ x ∈ T0.toL, x.1 ≠ k := fun x hx => by
            rw [← HPL.out, toL_plug] at hx
            simp only [T.toL, List.append_nil] at hx
            rcases List.mem_append.1 hx with hx | hx
            · have := HLF.out x hx; omega
            · have := HRT.out x hx; omega
          refine ⟨T0, by rw [look_none hno]; rfl, HT.out.below HB.out, (delS_none hno).symm, rem_of0 (rem_refl0 _ _) (Fr.of_below [] HB.out) (fun _ h => by cases h), fun b hb => .inl hb⟩
        | nd b bal l pk pv r =>
          rw [show ptr (T.nd b bal l pk pv r) = some ⟨b, 0, none⟩ from rfl]
          have hsm : Srt (l.toL ++ (pk, pv) :: r.toL) := by
            have h3 := HT.out.srt
            rw [← HPL.out, toL_plug] at h3
            exact (List.pairwise_append.1 (List.pairwise_append.1 h3).1).2.1
          have hsl : ∀ x ∈ l.toL, x.1 < pk := fun x hx => (List.pairwise_append.1 hsm).2.2 x hx (pk, pv) (by simp)
          have hsr : ∀ x ∈ r.toL, pk < x.1 := fun x hx => (List.pairwise_cons.1 (List.pairwise_append.1 hsm).2.1).1 x hx
          have HSL := Lib.hid hsl
          have HSR := Lib.hid hsr
          have n0 : Nd wr b bal (ptr l) (ptr r) pk pv := HAT.out.1
          have c3 := Blk.cell n0 3 rfl
          have hm := meth_cmp
          clear n0 hsm hsl hsr
          go_wp2_with fail
          refine (compare_any pk pv k v0 _).mono ?_
          rintro e wc ⟨rfl, hbc⟩
          have HTC := Lib.hid (HAT.out.below hbc)
          have HCC := Lib.hid (HCTX.out.below hbc)
          have HHC := Lib.hid (HHD.out.fr (Fr.of_below [] hbc) (fun h => by cases h))
          have HAC := Lib.hid (HAR.out.below hbc)
          have HKC := Lib.hid (HKD.out.next hbc)
          have HBC := Lib.hid (HB.out.trans (hbc.mono HB.out.size))
          clear hbc c3 hm HAT HCTX HHD HAR HKD HB
          have n0 : Nd wc b bal (ptr l) (ptr r) pk pv := HTC.out.1
          have c1 : wc.cell? ⟨b, 1, none⟩ = some (.pointer (ptr l)) := Blk.cell n0 1 rfl
          have c2 : wc.cell? ⟨b, 2, none⟩ = some (.pointer (ptr r)) := Blk.cell n0 2 rfl
          have c3 := Blk.cell n0 3 rfl
          clear n0
          by_cases hlt : k < pk
          · cases gk with
            | zero => simp [T.h] at hkk
            | succ kk =>
              have HSM : Hid ((∀ x ∈ (pk, pv) :: r.toL, k < x.1) ∧ True) := Lib.hid ⟨fun x hx => by
                rcases List.mem_cons.1 hx with rfl | hx
                · exact hlt
                · have := HSR.out x hx; omega, trivial⟩
              have HLT := Lib.hid hlt
              have hcm : cmp pk k = 1 := by unfold cmp; rw [if_neg (by have := HLT.out; omega), if_pos HLT.out]
              rw [hcm]
              clear hcm hlt
              go_wp2_with fail
              refine (norm_any (1) _).mono ?_
              rintro e w' ⟨rfl, rfl⟩
              have hnm : nrm (1) = 0 := by decide
              rw [hnm]
              clear hnm
              obtain ⟨uC, hC⟩ := HAC.out.someC fs.length (by omega)
              obtain ⟨uD, hD⟩ := HAC.out.someD fs.length (by omega)
              have fC := HAC.out.freeC fs.length
              have fD := HAC.out.freeD fs.length
              have hbn := HAC.out.ne (HTC.out.1 : Nd w' b bal (ptr l) (ptr r) pk pv) (by decide) (by decide)
              have hcd := HAC.out.cd
              have e1 : ¬ b = C := hbn.1
              have e2 : ¬ b = D := hbn.2
              have e3 : ¬ C = b := fun e => hbn.1 e.symm
              have e4 : ¬ D = b := fun e => hbn.2 e.symm
              have e5 : ¬ C = D := hcd
              have e6 : ¬ D = C := fun e => hcd e.symm
              obtain ⟨len, hlen⟩ : ∃ len, fs.length = len := ⟨_, rfl⟩
              rw [hlen] at hC hD fC fD ⊢
              have HLEN := Lib.hid hlen
              have i1 : (len : Int) < 64 := by omega
              have i2 : (0 : Int) ≤ (len : Int) := by omega
              clear hbn hcd c3 hlen
              go_wp2_with fail
              go_roundg kk
              case measure => omega
              case rel =>
                have hf := stk_fr w' C D len (.int .i64 0) (.pointer (some ⟨b, 0, none⟩))
                have hpush := HAC.out.push ⟨b, bal, false, r, pk, pv⟩ (by rw [HLEN.out]; omega)
                rw [HLEN.out] at hpush
                simp only [Bool.false_eq_true, if_false] at hpush
                have hl := HAC.out.lt
                have hat' : At _ (T.nd b bal l pk pv r) := HTC.out.fr hf (HAC.out.at_ne HTC.out)
                refine ⟨fs ++ [⟨b, bal, false, r, pk, pv⟩], l, rfl, by rw [List.length_append, HLEN.out]; go_num, ?_, (AtC_append _ fs _ _).2 ⟨AtC.fr HCC.out hf (HAC.out.atc_ne HCC.out), ⟨hat'.1, hat'.2.2, trivial⟩⟩, hat'.2.1, ?_, ?_, by simp only [T.h] at hkk; omega, by simp only [T.h] at hdep; rw [List.length_append]; simp only [List.length_cons, List.length_nil]; omega, HHC.out.fr hf (by simp; exact ⟨HDF.out.2.1, HDF.out.2.2⟩), hpush, hf.blk HKC.out (by simp; exact ⟨HDF.out.1.1, HDF.out.1.2.1⟩), HBC.out.trans (hf.below (two_ge hl.1.2 hl.2.2) HBC.out.size)⟩
                · rw [plug_append, ← HPL.out]; rfl
                · intro x hx
                  rw [lefts_append] at hx
                  rcases List.mem_append.1 hx with hx | hx
                  · exact HLF.out x hx
                  · simp [lefts] at hx
                · intro x hx
                  rw [rights_append] at hx
                  rcases List.mem_append.1 hx with hx | hx
                  · exact HSM.out.1 x (by simpa [rights] using hx)
                  · exact HRT.out x hx
          · by_cases hlt : pk < k
            · cases gk with
              | zero => simp [T.h] at hkk
              | succ kk =>
                have HSM : Hid ((∀ x ∈ l.toL ++ [(pk, pv)], x.1 < k) ∧ True) := Lib.hid ⟨fun x hx => by
                  rcases List.mem_append.1 hx with hx | hx
                  · have := HSL.out x hx; omega
                  · rw [List.mem_singleton.1 hx]; exact hlt, trivial⟩
                have HLT := Lib.hid hlt
                have hcm : cmp pk k = -1 := by unfold cmp; rw [if_pos HLT.out]
                rw [hcm]
                clear hcm hlt
                go_wp2_with fail
                refine (norm_any (-1) _).mono ?_
                rintro e w' ⟨rfl, rfl⟩
                have hnm : nrm (-1) = 1 := by decide
                rw [hnm]
                clear hnm
                obtain ⟨uC, hC⟩ := HAC.out.someC fs.length (by omega)
                obtain ⟨uD, hD⟩ := HAC.out.someD fs.length (by omega)
                have fC := HAC.out.freeC fs.length
                have fD := HAC.out.freeD fs.length
                have hbn := HAC.out.ne (HTC.out.1 : Nd w' b bal (ptr l) (ptr r) pk pv) (by decide) (by decide)
                have hcd := HAC.out.cd
                have e1 : ¬ b = C := hbn.1
                have e2 : ¬ b = D := hbn.2
                have e3 : ¬ C = b := fun e => hbn.1 e.symm
                have e4 : ¬ D = b := fun e => hbn.2 e.symm
                have e5 : ¬ C = D := hcd
                have e6 : ¬ D = C := fun e => hcd e.symm
                obtain ⟨len, hlen⟩ : ∃ len, fs.length = len := ⟨_, rfl⟩
                rw [hlen] at hC hD fC fD ⊢
                have HLEN := Lib.hid hlen
                have i1 : (len : Int) < 64 := by omega
                have i2 : (0 : Int) ≤ (len : Int) := by omega
                clear hbn hcd c3 hlen
                go_wp2_with fail
                go_roundg kk
                case measure => omega
                case rel =>
                  have hf := stk_fr w' C D len (.int .i64 1) (.pointer (some ⟨b, 0, none⟩))
                  have hpush := HAC.out.push ⟨b, bal, true, l, pk, pv⟩ (by rw [HLEN.out]; omega)
                  rw [HLEN.out] at hpush
                  simp only [if_true] at hpush
                  have hl := HAC.out.lt
                  have hat' : At _ (T.nd b bal l pk pv r) := HTC.out.fr hf (HAC.out.at_ne HTC.out)
                  refine ⟨fs ++ [⟨b, bal, true, l, pk, pv⟩], r, rfl, by rw [List.length_append, HLEN.out]; go_num, ?_, (AtC_append _ fs _ _).2 ⟨AtC.fr HCC.out hf (HAC.out.atc_ne HCC.out), ⟨hat'.1, hat'.2.1, trivial⟩⟩, hat'.2.2, ?_, ?_, by simp only [T.h] at hkk; omega, by simp only [T.h] at hdep; rw [List.length_append]; simp only [List.length_cons, List.length_nil]; omega, HHC.out.fr hf (by simp; exact ⟨HDF.out.2.1, HDF.out.2.2⟩), hpush, hf.blk HKC.out (by simp; exact ⟨HDF.out.1.1, HDF.out.1.2.1⟩), HBC.out.trans (hf.below (two_ge hl.1.2 hl.2.2) HBC.out.size)⟩
                  · rw [plug_append, ← HPL.out]; rfl
                  · intro x hx
                    rw [lefts_append] at hx
                    rcases List.mem_append.1 hx with hx | hx
                    · exact HLF.out x hx
                    · exact HSM.out.1 x (by simpa [lefts] using hx)
                  · intro x hx
                    rw [rights_append] at hx
                    rcases List.mem_append.1 hx with hx | hx
                    · simp [rights] at hx
                    · exact HRT.out x hx
            · obtain rfl : pk = k := by omega
              have hcm : cmp pk pk = 0 := by unfold cmp; rw [if_neg (by omega), if_neg (by omega)]
              rw [hcm]
              clear hcm
              go_wp2_with fail
              go_meet
              exact ⟨fs, b, bal, l, pv, r, rfl, rfl, HPL.out, HCC.out, HTC.out, HLF.out, HRT.out, hdep, HHC.out, HAC.out, HKC.out, HBC.out⟩
      -- A]]
    case rest =>
      clear HH HAR HKD HBW c02 c0
      obtain ⟨fs, b, bal, l, v, r, rfl, rfl, hpl, hctx, hat, hlf, hrt, hdep, hhd, har, hkd, hbel⟩ := hcut
      have hbpl := plug_blocks fs (.nd b bal l k v r)
      rw [hpl] at hbpl
      have hLpos : 0 < L := by
        rw [← HL.out, ← hpl, toL_plug]
        simp [T.toL]
        omega
      obtain ⟨M, hM⟩ : ∃ M, L = M + 1 := ⟨L - 1, by omega⟩
      have hin : i ∉ cblocks fs := fun hm => by
        obtain ⟨cs, hk⟩ := AtC.blk hctx hm
        exact hhd.ne hk rfl
      have hit : i ∉ (T.nd b bal l k v r).blocks := fun hm => by
        obtain ⟨cs, hk⟩ := at_blk hat hm
        exact hhd.ne hk rfl
      have htop : top fs (some ⟨b, 0, none⟩) = ptr T0 := by rw [← hpl, ptr_plug]; rfl
      obtain ⟨db2, dl2, dr2, hh2⟩ := hhd
      have hfi : Fr [i] [i] wc (wc.setCell ⟨i, 1, none⟩ (.int .u64 (M : Int))) := Fr.store wc (F := [i]) (a := ⟨i, 1, none⟩) (by simp) _
      have hdst : DSt w i T0.blocks M C D dn 0 fs (some ⟨b, 0, none⟩) (T.nd b bal l k v r).blocks (wc.setCell ⟨i, 1, none⟩ (.int .u64 (M : Int))) := by
        refine ⟨AtC.fr hctx hfi (fun x hx e => hin (by rw [← List.mem_singleton.1 e]; exact hx)), ⟨db2, dl2, dr2, by rw [htop]; exact hh2.set 1 (.int .u64 (M : Int))⟩, rem_of0 (rem_of0 (rem_refl0 _ _) (Fr.of_below [] hbel) (fun _ h => by cases h)) hfi (fun x hx => by rw [List.mem_singleton.1 hx]; exact .inl (by simp)), hbpl.nodup HT.out.nd, fun x hx => .inl (hbpl.mem_iff.2 hx), har.fr hfi (fun x hx => by rw [List.mem_singleton.1 hx]; exact ⟨HDF.out.2.1, HDF.out.2.2⟩), hfi.blk hkd (by simp; exact HDF.out.1.2.2), HDW.out⟩
      have hat3 : At (wc.setCell ⟨i, 1, none⟩ (.int .u64 (M : Int))) (.nd b bal l k v r) := hat.fr hfi (fun x hx e => hit (by rw [← List.mem_singleton.1 e]; exact hx))
      have HDST := Lib.hid hdst
      have HAT3 := Lib.hid hat3
      have HPL := Lib.hid hpl
      have HLF := Lib.hid hlf
      have HRT := Lib.hid hrt
      have HM := Lib.hid hM
      have c1 := hh2.cell 1 rfl
      have f1 := hh2.free 1
      have e1 : IntKind.u64.wrap ((L : Int) - 1) = (M : Int) := by simp only [IntKind.wrap, IntKind.signed, IntKind.bits]; simp; omega
      have n0 : Nd (wc.setCell ⟨i, 1, none⟩ (.int .u64 (M : Int))) b bal (ptr l) (ptr r) k v := hat3.1
      have c3 := Blk.cell n0 3 rfl
      have HV : Hid (VC fs (T.nd b bal l k v r).h ∧ V (.nd b bal l k v r)) := Lib.hid ((V_plug fs _).1 (by rw [hpl]; exact HT.out.v))
      have hbi : ¬ b = i := fun e => hit (by rw [← e]; simp [T.blocks])
      have c3' : wc.cell? ⟨b, 3, none⟩ = some (.iface 99 (.agg #[.int .i64 k, .int .i64 v])) := Blk.cell (show Nd wc b bal (ptr l) (ptr r) k v from hat.1) 3 rfl
      obtain ⟨len, hlen⟩ : ∃ len, fs.length = len := ⟨_, rfl⟩
      have HLEN := Lib.hid hlen
      have hl50 : len ≤ 50 := by rw [← hlen]; omega
      rw [hlen]
      clear hpl hctx hat hlf hrt hdep har hkd hbel hbpl hLpos hin hit htop hh2 hfi hdst hat3 n0 hM c3 hlen
      go_wp2_with fail
      obtain ⟨wd, hwd⟩ : ∃ wd, wd = wc.setCell ⟨i, 1, none⟩ (.int .u64 (M : Int)) := ⟨_, rfl⟩
      rw [← hwd] at HDST HAT3 ⊢
      clear hwd c1 f1 e1 hbi c3'
      obtain ⟨tt, htt⟩ : ∃ tt, tt = T.nd b bal l k v r := ⟨_, rfl⟩
      have HTT := Lib.hid htt
      go_loopg [7, 8, 15] len (fun kk s7 s8 s15 wr => CopyRel w i M C D dn T0 fs (.nd b bal l k v r) kk s15 wr)
      case atStart => exact ⟨[], fs, b, rfl, HLEN.out, Same.refl _, HDST.out, HAT3.out, fun _ => rfl⟩
      case round =>
        clear HDST HAT3 htt HTT
        obtain ⟨p, q, y, rfl, hql, hsame, hdst, hat, hy⟩ := hrel
        have HDST := Lib.hid hdst
        have HAT := Lib.hid hat
        have HSA := Lib.hid hsame
        have HY := Lib.hid hy
        have hpq : p.length + q.length = len := by rw [← HLEN.out, ← hsame.len, List.length_append]
        obtain ⟨plen, hplen⟩ : ∃ plen, p.length = plen := ⟨_, rfl⟩
        rw [hplen] at hpq ⊢
        have HPLEN := Lib.hid hplen
        cases q with
        | nil =>
          have hlast : plen = len := by simpa using hpq
          subst hlast
          rw [List.append_nil] at HDST HSA
          clear hdst hat hsame hy hplen hpq hql HY
          go_wp2_with fail
          refine (copynode_any b bal (ptr l) (ptr r) k v wr HAT.out.1).mono ?_
          rintro e w6 ⟨rfl, hn6, hb6, hz6⟩
          have HDS6 := Lib.hid (HDST.out.next hb6)
          have HAT6 := Lib.hid (HAT.out.below hb6)
          obtain ⟨b', hb'⟩ : ∃ b', wr.heap.size = b' := ⟨_, rfl⟩
          rw [hb'] at hn6 hz6 ⊢
          have HBB := Lib.hid hb'
          have HBL : Hid (∀ x ∈ (T.nd b bal l k v r).blocks, x < b') := Lib.hid (fun x hx => by rw [← hb']; exact HAT.out.lt x hx)
          have HBC : Hid (∀ x ∈ cblocks p, x < b') := Lib.hid (fun x hx => by rw [← hb']; exact AtC.lt HDST.out.ctx x hx)
          have hbw : w.heap.size ≤ b' := by rw [← hb']; exact HDST.out.fr.size
          have HN6 := Lib.hid hn6
          have n1 : w6.cell? ⟨b', 1, none⟩ = some (.pointer (ptr l)) := Blk.cell hn6 1 rfl
          have n2 : w6.cell? ⟨b', 2, none⟩ = some (.pointer (ptr r)) := Blk.cell hn6 2 rfl
          have HDL := Lib.hid (del_list HPL.out HT.out.srt HLF.out HRT.out)
          have hl50' := hl50
          clear hn6 hb6 hz6 hb' HDST HAT
          go_upto_region 31 with fail
          go_cut [131] from 118 to 130 (fun s131 wx => s131 = .bool (isNil l || isNil r) ∧ wx = w6)
          case first =>
            -- [[C
            as_aux_lemma =>
            cases l with
            | nil =>
              have n1 : w6.cell? ⟨b', 1, none⟩ = some (.pointer none) := n1
              go_wp2_with fail
              go_meet
              exact ⟨rfl, rfl⟩
            | nd lb lbal ll lk lv lr =>
              have n1 : w6.cell? ⟨b', 1, none⟩ = some (.pointer (some ⟨lb, 0, none⟩)) := n1
              cases r with
              | nil =>
                have n2 : w6.cell? ⟨b', 2, none⟩ = some (.pointer none) := n2
                go_wp2_with fail
                go_meet
                exact ⟨rfl, rfl⟩
              | nd rb rbal rl rk rv rr =>
                have n2 : w6.cell? ⟨b', 2, none⟩ = some (.pointer (some ⟨rb, 0, none⟩)) := n2
                go_wp2_with fail
                go_meet
                exact ⟨rfl, rfl⟩
            -- C]]
          case rest =>
            obtain ⟨rfl, rfl⟩ := hcut
            obtain ⟨BN, hBN⟩ : ∃ BN, (isNil l || isNil r) = BN := ⟨_, rfl⟩
            rw [hBN]
            have HBN := Lib.hid hBN
            clear hBN
            go_upto_if 131 with fail
            go_cut [9, 11, 17] from 132 to 250 (fun s9 s11 s17 wx => RebRel w i M C D dn T0 k s9 wx)
            case first =>
              cases BN with
              | true =>
                -- [[D
                as_aux_lemma =>
                cases l with
                | nil =>
                  have n1 : wc.cell? ⟨b', 1, none⟩ = some (.pointer none) := n1
                  have hvv := HV.out
                  obtain ⟨v1, v2, v3, v4, v5⟩ := hvv.2
                  have hch : wc.cell? ⟨b', 2, none⟩ = some (.pointer (ptr r)) := n2
                  have HVV := Lib.hid (And.intro hvv.1 (show V r from v5))
                  have HHH : Hid ((T.nd b bal T.nil k v r).h = r.h + 1) := Lib.hid (by simp only [T.h]; omega)
                  have HAC : Hid (∀ wx, At wx (T.nd b bal T.nil k v r) → At wx r) := Lib.hid (fun wx h => h.2.2)
                  have HBSUB : Hid ((T.nd b bal T.nil k v r).blocks = b :: r.blocks) := Lib.hid (by simp [T.blocks])
                  have HLST : Hid (T0.toL.filter (fun x => decide (x.1 ≠ k)) = lefts p ++ r.toL ++ rights p) := Lib.hid (by rw [HDL.out.1, HSA.out.lefts, HSA.out.rights]; simp [T.toL])
                  clear hvv v1 v2 v3 v4 v5 n1 n2
                  go_wp2_with fail
                  refine (ifb_any true _).mono ?_
                  rintro e' w7 ⟨rfl, rfl⟩
                  rcases List.eq_nil_or_concat p with hp | ⟨p', f, hp⟩
                  · subst hp
                    have hz : plen = 0 := by rw [← HPLEN.out]; rfl
                    subst hz
                    obtain ⟨db3, dl3, dr3, hh3⟩ := HDS6.out.head
                    have c0 := hh3.cell 0 rfl
                    have f0 := hh3.free 0
                    clear hh3
                    go_wp2_with fail
                    go_meet
                    have hrt := HDS6.out.root (ptr r) HDF.out.1.2.2 HDF.out.2.1 HDF.out.2.2
                    have hnd := HDS6.out.nd
                    have hold := HDS6.out.old
                    rw [HBSUB.out] at hnd hold
                    simp only [cblocks, List.nil_append, List.nodup_cons] at hnd hold
                    refine ⟨[], r, rfl, hrt.1.hang _ (by simpa [cblocks] using hnd.2) (fun x hx => hold x (by simp only [cblocks, List.nil_append] at hx; exact List.mem_cons_of_mem _ hx)), (HAC.out _ HAT6.out).fr hrt.2 (fun x hx e => ?_), HVV.out.2, trivial, HLST.out.symm, by simp⟩
                    rw [List.mem_singleton] at e
                    obtain ⟨cs, hk⟩ := at_blk (HAC.out _ HAT6.out) hx
                    exact HDS6.out.head.ne hk e
                  · rw [List.concat_eq_append] at hp
                    subst hp
                    have hpl1 : p'.length + 1 = plen := by rw [← HPLEN.out]; simp
                    obtain ⟨m, hm⟩ : ∃ m, p'.length = m := ⟨_, rfl⟩
                    rw [hm] at hpl1
                    have HPL1 := Lib.hid hpl1
                    have hfj : (p' ++ [f])[m]? = some f := by rw [← hm]; simp
                    obtain ⟨hC, hD⟩ := HDS6.out.ar.at_ hfj
                    obtain ⟨X, hX, hX2, hX3⟩ : ∃ X : Nat, (if f.d then (1 : Int) else 0) = (X : Int) ∧ X < 2 ∧ (if f.d then 2 else 1) = 1 + X := by
                      cases f.d
                      · exact ⟨0, rfl, by omega, rfl⟩
                      · exact ⟨1, rfl, by omega, rfl⟩
                    obtain ⟨-, hcf, -, -⟩ := (AtC_append w7 p' [f] _).1 HDS6.out.ctx
                    have hnf : Nd w7 f.b f.bal _ _ f.k f.v := hcf
                    have ff := Blk.free hnf (1 + X)
                    obtain ⟨uf, huf⟩ : ∃ uf, w7.cell? ⟨f.b, 1 + X, none⟩ = some uf := by
                      have : X = 0 ∨ X = 1 := by omega
                      rcases this with rfl | rfl
                      · exact ⟨_, Blk.cell hnf 1 rfl⟩
                      · exact ⟨_, Blk.cell hnf 2 rfl⟩
                    rw [hX] at hD
                    have HX3 := Lib.hid hX3
                    have HM2 := Lib.hid hm
                    have t1 : IntKind.i64.wrap ((plen : Int) - 1) = (m : Int) := by have h := IntWalk.i64_in ((plen : Int) - 1) (by omega); rw [h]; omega
                    have t3 : ((plen : Int) != 0) = true := by rw [bne_iff_ne]; omega
                    have i3 : (m : Int) < 64 := by omega
                    have i4 : (0 : Int) ≤ (m : Int) := by omega
                    have x1 : (X : Int) < 2 := by omega
                    have x2 : (0 : Int) ≤ (X : Int) := by omega
                    clear hfj hX hX3 hcf hnf hm hpl1
                    go_upto_region 34 with fail
                    refine wp_region_still_tail 19 (by kernel_rfl) (by kernel_rfl) ?_
                    simp only [List.take_succ_cons, List.take_zero, List.drop_succ_cons, List.drop_zero]
                    repeat still_step
                    refine wpStill_nil ?_
                    change wpList _ _ _ _ _ w7.drew
                    go_wp2_with fail
                    go_meet
                    have hlk := (HDS6.out.link (ptr r)).1
                    have hlf := (HDS6.out.link (ptr r)).2
                    rw [HX3.out] at hlk hlf
                    have hnd := HDS6.out.nd
                    have hold := HDS6.out.old
                    rw [HBSUB.out] at hnd hold
                    refine ⟨p' ++ [f], r, by rw [List.length_append, HM2.out, ← HPL1.out]; rfl, (hlk.hang _ ?_ (fun x hx => hold x ?_)).drew, ((HAC.out _ HAT6.out).fr hlf (fun x hx e => ?_)).below (Below.refl _ _).drew, HVV.out.2, ?_, HLST.out.symm, by have := HPL1.out; rw [List.length_append, HM2.out]; simp; omega⟩
                    · exact (List.Sublist.append (List.Sublist.refl _) (List.sublist_cons_self b _)).nodup hnd
                    · rcases List.mem_append.1 hx with hx | hx
                      · exact List.mem_append_left _ hx
                      · exact List.mem_append_right _ (List.mem_cons_of_mem _ hx)
                    · rw [List.mem_singleton] at e
                      exact (List.nodup_append.1 hnd).2.2 f.b (by rw [cblocks_append]; simp [cblocks]) x (List.mem_cons_of_mem _ hx) (by rw [e])
                    · rw [← HHH.out]; exact HSA.out.vc.2 HVV.out.1
                | nd lb lbal ll lk lv lr =>
                  cases r with
                  | nd rb rbal rl rk rv rr => exact absurd HBN.out (by simp [isNil])
                  | nil =>
                    have n1 : wc.cell? ⟨b', 1, none⟩ = some (.pointer (some ⟨lb, 0, none⟩)) := n1
                    obtain ⟨l', hl'⟩ : ∃ l', l' = T.nd lb lbal ll lk lv lr := ⟨_, rfl⟩
                    have hpl' : ptr l' = some ⟨lb, 0, none⟩ := by rw [hl']; rfl
                    rw [← hpl'] at n1
                    rw [← hl'] at HAT6 HDS6 HBL HV HDL HPL
                    have n1' : wc.cell? ⟨b', 1, none⟩ = some (.pointer (some ⟨lb, 0, none⟩)) := by rw [n1, hpl']
                    have HLP := Lib.hid hl'
                    clear hl'
                    have hvv := HV.out
                    obtain ⟨v1, v2, v3, v4, v5⟩ := hvv.2
                    have hch := n1'
                    have HVV := Lib.hid (And.intro hvv.1 (show V l' from v4))
                    have HHH : Hid ((T.nd b bal l' k v T.nil).h = l'.h + 1) := Lib.hid (by simp only [T.h]; omega)
                    have HAC : Hid (∀ wx, At wx (T.nd b bal l' k v T.nil) → At wx l') := Lib.hid (fun wx h => h.2.1)
                    have HBSUB : Hid ((T.nd b bal l' k v T.nil).blocks = b :: l'.blocks) := Lib.hid (by simp [T.blocks])
                    have HLST : Hid (T0.toL.filter (fun x => decide (x.1 ≠ k)) = lefts p ++ l'.toL ++ rights p) := Lib.hid (by rw [HDL.out.1, HSA.out.lefts, HSA.out.rights]; simp [T.toL])
                    rw [hpl'] at n1
                    clear hvv v1 v2 v3 v4 v5 n2 n1'
                    go_wp2_with fail
                    refine (ifb_any false _).mono ?_
                    rintro e' w7 ⟨rfl, rfl⟩
                    rcases List.eq_nil_or_concat p with hp | ⟨p', f, hp⟩
                    · subst hp
                      have hz : plen = 0 := by rw [← HPLEN.out]; rfl
                      subst hz
                      obtain ⟨db3, dl3, dr3, hh3⟩ := HDS6.out.head
                      have c0 := hh3.cell 0 rfl
                      have f0 := hh3.free 0
                      clear hh3
                      go_wp2_with fail
                      go_meet
                      first | rw [← HLP.out] | rw [← hpl']
                      have hrt := HDS6.out.root (ptr l') HDF.out.1.2.2 HDF.out.2.1 HDF.out.2.2
                      have hnd := HDS6.out.nd
                      have hold := HDS6.out.old
                      rw [HBSUB.out] at hnd hold
                      simp only [cblocks, List.nil_append, List.nodup_cons] at hnd hold
                      refine ⟨[], l', rfl, hrt.1.hang _ (by simpa [cblocks] using hnd.2) (fun x hx => hold x (by simp only [cblocks, List.nil_append] at hx; exact List.mem_cons_of_mem _ hx)), (HAC.out _ HAT6.out).fr hrt.2 (fun x hx e => ?_), HVV.out.2, trivial, HLST.out.symm, by simp⟩
                      rw [List.mem_singleton] at e
                      obtain ⟨cs, hk⟩ := at_blk (HAC.out _ HAT6.out) hx
                      exact HDS6.out.head.ne hk e
                    · rw [List.concat_eq_append] at hp
                      subst hp
                      have hpl1 : p'.length + 1 = plen := by rw [← HPLEN.out]; simp
                      obtain ⟨m, hm⟩ : ∃ m, p'.length = m := ⟨_, rfl⟩
                      rw [hm] at hpl1
                      have HPL1 := Lib.hid hpl1
                      have hfj : (p' ++ [f])[m]? = some f := by rw [← hm]; simp
                      obtain ⟨hC, hD⟩ := HDS6.out.ar.at_ hfj
                      obtain ⟨X, hX, hX2, hX3⟩ : ∃ X : Nat, (if f.d then (1 : Int) else 0) = (X : Int) ∧ X < 2 ∧ (if f.d then 2 else 1) = 1 + X := by
                        cases f.d
                        · exact ⟨0, rfl, by omega, rfl⟩
                        · exact ⟨1, rfl, by omega, rfl⟩
                      obtain ⟨-, hcf, -, -⟩ := (AtC_append w7 p' [f] _).1 HDS6.out.ctx
                      have hnf : Nd w7 f.b f.bal _ _ f.k f.v := hcf
                      have ff := Blk.free hnf (1 + X)
                      obtain ⟨uf, huf⟩ : ∃ uf, w7.cell? ⟨f.b, 1 + X, none⟩ = some uf := by
                        have : X = 0 ∨ X = 1 := by omega
                        rcases this with rfl | rfl
                        · exact ⟨_, Blk.cell hnf 1 rfl⟩
                        · exact ⟨_, Blk.cell hnf 2 rfl⟩
                      rw [hX] at hD
                      have HX3 := Lib.hid hX3
                      have HM2 := Lib.hid hm
                      have t1 : IntKind.i64.wrap ((plen : Int) - 1) = (m : Int) := by have h := IntWalk.i64_in ((plen : Int) - 1) (by omega); rw [h]; omega
                      have t3 : ((plen : Int) != 0) = true := by rw [bne_iff_ne]; omega
                      have i3 : (m : Int) < 64 := by omega
                      have i4 : (0 : Int) ≤ (m : Int) := by omega
                      have x1 : (X : Int) < 2 := by omega
                      have x2 : (0 : Int) ≤ (X : Int) := by omega
                      clear hfj hX hX3 hcf hnf hm hpl1
                      go_upto_region 34 with fail
                      refine wp_region_still_tail 19 (by kernel_rfl) (by kernel_rfl) ?_
                      simp only [List.take_succ_cons, List.take_zero, List.drop_succ_cons, List.drop_zero]
                      repeat still_step
                      refine wpStill_nil ?_
                      change wpList _ _ _ _ _ w7.drew
                      go_wp2_with fail
                      go_meet
                      first | rw [← HLP.out] | rw [← hpl']
                      have hlk := (HDS6.out.link (ptr l')).1
                      have hlf := (HDS6.out.link (ptr l')).2
                      rw [HX3.out] at hlk hlf
                      have hnd := HDS6.out.nd
                      have hold := HDS6.out.old
                      rw [HBSUB.out] at hnd hold
                      refine ⟨p' ++ [f], l', by rw [List.length_append, HM2.out, ← HPL1.out]; rfl, (hlk.hang _ ?_ (fun x hx => hold x ?_)).drew, ((HAC.out _ HAT6.out).fr hlf (fun x hx e => ?_)).below (Below.refl _ _).drew, HVV.out.2, ?_, HLST.out.symm, by have := HPL1.out; rw [List.length_append, HM2.out]; simp; omega⟩
                      · exact (List.Sublist.append (List.Sublist.refl _) (List.sublist_cons_self b _)).nodup hnd
                      · rcases List.mem_append.1 hx with hx | hx
                        · exact List.mem_append_left _ hx
                        · exact List.mem_append_right _ (List.mem_cons_of_mem _ hx)
                      · rw [List.mem_singleton] at e
                        exact (List.nodup_append.1 hnd).2.2 f.b (by rw [cblocks_append]; simp [cblocks]) x (List.mem_cons_of_mem _ hx) (by rw [e])
                      · rw [← HHH.out]; exact HSA.out.vc.2 HVV.out.1
                -- D]]
              | false =>
                -- [[E
                as_aux_lemma =>
                have hrn : ∃ rb rbal rl rk rv rr, r = T.nd rb rbal rl rk rv rr := by
                  cases r with
                  | nil => have := HBN.out; cases l <;> simp [isNil] at this
                  | nd rb rbal rl rk rv rr => exact ⟨rb, rbal, rl, rk, rv, rr, rfl⟩
                have HRN := Lib.hid hrn
                have hps : plen < 64 := by omega
                obtain ⟨uC, hC⟩ := HDS6.out.ar.someC plen hps
                obtain ⟨uD, hD⟩ := HDS6.out.ar.someD plen hps
                have fC := HDS6.out.ar.freeC plen
                have fD := HDS6.out.ar.freeD plen
                have hcd := HDS6.out.ar.cd
                have e5 : ¬ C = D := hcd
                have e6 : ¬ D = C := fun e => hcd e.symm
                have i1 : (plen : Int) < 64 := by omega
                have i2 : (0 : Int) ≤ (plen : Int) := by omega
                have t2 : IntKind.i64.wrap ((plen : Int) + 1) = (plen : Int) + 1 := IntWalk.i64_in _ (by omega)
                have HS0 := Lib.hid (HSt.start (b' := b') HDS6.out HAT6.out.2.1 HAT6.out.2.2 HN6.out HBC.out HBL.out hbw (by rw [HPLEN.out]; exact hps) HDF.out.1.1 HDF.out.1.2.1 HDF.out.2.1 HDF.out.2.2)
                rw [HPLEN.out] at HS0
                clear hrn hcd n1
                go_wp2_with fail
                obtain ⟨wh, hwh⟩ : ∃ wh, wh = (wc.setCell ⟨D, plen, none⟩ (.int .i64 1)).setCell ⟨C, plen, none⟩ (.pointer (some ⟨b', 0, none⟩)) := ⟨_, rfl⟩
                rw [← hwh] at HS0 ⊢
                clear hwh hC hD fC fD n2
                go_loopg [9, 17] r.h (fun kk s9 s17 wr => HeirRel w i M C D dn T0 p y b' bal l k v r plen kk s9 s17 wr)
                case atStart =>
                  obtain ⟨rb, rbal, rl, rk, rv, rr, hr⟩ := HRN.out
                  rw [hr] at HS0 ⊢
                  exact ⟨[], rb, rbal, rl, rk, rv, rr, by go_num, rfl, HS0.out, rfl, rfl, by simp only [T.h]; omega⟩
                case round =>
                  clear HS0
                  obtain ⟨hs, hb, hbal, tl, hk, hv, tr, rfl, rfl, hst, hpl, hlf, hkk⟩ := hrel
                  obtain ⟨tn, htn⟩ : ∃ tn, plen + 1 + hs.length = tn := ⟨_, rfl⟩
                  rw [htn]
                  have HST := Lib.hid hst
                  have HPLG := Lib.hid hpl
                  have HLFS := Lib.hid hlf
                  have HTN := Lib.hid htn
                  have htn60 : tn ≤ 55 ∧ 1 ≤ tn := by
                    have h1 := hgt_len hs (T.nd hb hbal tl hk hv tr).h
                    rw [← plug_h, hpl] at h1
                    have h2 := hgt_len fs (T.nd b bal l k v r).h
                    rw [← plug_h, HPL.out, HLEN.out] at h2
                    have h3 := HH40.out
                    have h4 : r.h + 1 ≤ (T.nd b bal l k v r).h := by simp only [T.h]; omega
                    omega
                  have n0 : Nd wr hb hbal (ptr tl) (ptr tr) hk hv := hst.att.1
                  have c1 : wr.cell? ⟨hb, 1, none⟩ = some (.pointer (ptr tl)) := Blk.cell n0 1 rfl
                  have c3 := Blk.cell n0 3 rfl
                  have i3 : (tn : Int) < 64 := by omega
                  have i4 : (0 : Int) ≤ (tn : Int) := by omega
                  have t3 : IntKind.i64.wrap ((tn : Int) + 1) = (tn : Int) + 1 := IntWalk.i64_in _ (by omega)
                  clear hst hpl hlf htn n0
                  cases tl with
                  | nil =>
                    have c1 : wr.cell? ⟨hb, 1, none⟩ = some (.pointer none) := c1
                    have nb := HST.out.nb
                    obtain ⟨cb, hcb⟩ : ∃ cb, wr.cell? ⟨b', 3, none⟩ = some cb := ⟨_, Blk.cell nb 3 rfl⟩
                    have fb3 := Blk.free nb 3
                    have HSE := Lib.hid (HST.out.entry hbw hk hv)
                    clear nb
                    go_upto_region 46 with fail
                    obtain ⟨we, hwe⟩ : ∃ we, we = wr.setCell ⟨b', 3, none⟩ (.iface 99 (.agg #[.int .i64 hk, .int .i64 hv])) := ⟨_, rfl⟩
                    rw [← hwe] at HSE ⊢
                    clear hwe c1 c3 hcb fb3
                    obtain ⟨NZ, hNZ⟩ : ∃ NZ, ((plen : Int) != 0) = NZ := ⟨_, rfl⟩
                    go_upto_if 211 with fail
                    have HNZ := Lib.hid hNZ
                    clear hNZ
                    go_cut [229] from 212 to 229 (fun s229 wx => HSt w i T0.blocks M C D dn 0 p (some ⟨b', 0, none⟩) b' bal l hk hv hs (.nd hb hbal .nil hk hv tr) wx)
                    case first =>
                      rcases List.eq_nil_or_concat p with hp | ⟨p', f, hp⟩
                      · subst hp
                        have hz : NZ = false := by rw [← HNZ.out, ← HPLEN.out]; rfl
                        subst hz
                        obtain ⟨db3, dl3, dr3, hh3⟩ := HSE.out.d.head
                        have c0 := hh3.cell 0 rfl
                        have f0 := hh3.free 0
                        clear hh3
                        go_wp2_with fail
                        go_meet
                        exact HSE.out.linkR HDF.out.1.2.2 HDF.out.2.1 HDF.out.2.2
                      · rw [List.concat_eq_append] at hp
                        subst hp
                        have hpl1 : p'.length + 1 = plen := by rw [← HPLEN.out]; simp
                        obtain ⟨m, hm⟩ : ∃ m, p'.length = m := ⟨_, rfl⟩
                        rw [hm] at hpl1
                        have hfj : (p' ++ [f])[m]? = some f := by rw [← hm]; simp
                        obtain ⟨hC, hD⟩ := HSE.out.d.ar.at_ hfj
                        obtain ⟨X, hX, hX2, hX3⟩ : ∃ X : Nat, (if f.d then (1 : Int) else 0) = (X : Int) ∧ X < 2 ∧ (if f.d then 2 else 1) = 1 + X := by
                          cases f.d
                          · exact ⟨0, rfl, by omega, rfl⟩
                          · exact ⟨1, rfl, by omega, rfl⟩
                        obtain ⟨-, hcf, -, -⟩ := (AtC_append we p' [f] _).1 HSE.out.d.ctx
                        have hnf : Nd we f.b f.bal _ _ f.k f.v := hcf
                        have ff := Blk.free hnf (1 + X)
                        obtain ⟨uf, huf⟩ : ∃ uf, we.cell? ⟨f.b, 1 + X, none⟩ = some uf := by
                          have : X = 0 ∨ X = 1 := by omega
                          rcases this with rfl | rfl
                          · exact ⟨_, Blk.cell hnf 1 rfl⟩
                          · exact ⟨_, Blk.cell hnf 2 rfl⟩
                        rw [hX] at hD
                        have HX3 := Lib.hid hX3
                        have t1 : IntKind.i64.wrap ((plen : Int) - 1) = (m : Int) := by have h := IntWalk.i64_in ((plen : Int) - 1) (by omega); rw [h]; omega
                        have hz : NZ = true := by rw [← HNZ.out, bne_iff_ne]; omega
                        subst hz
                        have i5 : (m : Int) < 64 := by omega
                        have i6 : (0 : Int) ≤ (m : Int) := by omega
                        have x1 : (X : Int) < 2 := by omega
                        have x2 : (0 : Int) ≤ (X : Int) := by omega
                        clear hfj hX hX3 hcf hnf hm hpl1
                        go_upto_region 47 with fail
                        refine wp_region_still_tail 14 (by kernel_rfl) (by kernel_rfl) ?_
                        simp only [List.take_succ_cons, List.take_zero, List.drop_succ_cons, List.drop_zero]
                        repeat still_step
                        refine wpStill_nil ?_
                        change wpList _ _ _ _ _ we.drew
                        go_wp2_with fail
                        go_meet
                        have := HSE.out.linkP
                        rw [HX3.out] at this
                        exact this.drew
                    case rest =>
                      obtain ⟨q, g, hqg⟩ : ∃ q g, p ++ ⟨b', bal, true, l, hk, hv⟩ :: hs = q ++ [g] := by
                        rcases List.eq_nil_or_concat hs with h1 | ⟨h2, g, h1⟩
                        · exact ⟨p, _, by rw [h1]⟩
                        · exact ⟨p ++ ⟨b', bal, true, l, hk, hv⟩ :: h2, g, by rw [h1, List.concat_eq_append]; simp⟩
                      have hj := hcut.join
                      have har := hcut.ar
                      have hgd : (hs = [] ∧ g.d = true ∧ g.b = b') ∨ (g.d = false ∧ g.b ≠ b') := by
                        rcases List.eq_nil_or_concat hs with h1 | ⟨h2, g2, h1⟩
                        · subst h1
                          have := List.append_inj' hqg rfl
                          injection this.2 with h3
                          exact .inl ⟨rfl, by rw [← h3], by rw [← h3]⟩
                        · rw [List.concat_eq_append] at h1
                          have h3 : (p ++ ⟨b', bal, true, l, hk, hv⟩ :: h2) ++ [g2] = q ++ [g] := by rw [← hqg, h1]; simp
                          have := List.append_inj' h3 rfl
                          injection this.2 with h4
                          subst h4
                          refine .inr ⟨?_, fun e => ?_⟩
                          · have h5 := HLFS.out
                            rw [h1, lefts_append] at h5
                            cases hd : g2.d with
                            | false => rfl
                            | true => rw [List.append_eq_nil_iff] at h5; simp [lefts, hd] at h5
                          · have h5 := (List.nodup_append.1 hcut.d.nd).2.1
                            rw [List.nodup_cons] at h5
                            refine h5.1 (List.mem_append_right _ (List.mem_append_left _ ?_))
                            rw [h1, cblocks_append, ← e]
                            simp [cblocks]
                      rw [hqg] at hj har
                      obtain ⟨m, hm⟩ : ∃ m, q.length = m := ⟨_, rfl⟩
                      have hqm : m + 1 = tn := by
                        have h1 := congrArg List.length hqg
                        simp only [List.length_append, List.length_cons, List.length_nil] at h1
                        have h2 := HTN.out
                        have h3 := HPLEN.out
                        omega
                      obtain ⟨hC, -⟩ := har.at_ (j := m) (f := g) (by rw [← hm]; simp)
                      obtain ⟨X, hX, hX2, hX3⟩ : ∃ X : Nat, (if g.d then (1 : Int) else 0) = (X : Int) ∧ X < 2 ∧ (if g.d then 2 else 1) = 1 + X := by
                        cases g.d
                        · exact ⟨0, rfl, by omega, rfl⟩
                        · exact ⟨1, rfl, by omega, rfl⟩
                      obtain ⟨-, hcf, -, -⟩ := (AtC_append wc q [g] _).1 hj.ctx
                      have hnf : Nd wc g.b g.bal _ _ g.k g.v := hcf
                      have ff := Blk.free hnf (1 + X)
                      obtain ⟨uf, huf⟩ : ∃ uf, wc.cell? ⟨g.b, 1 + X, none⟩ = some uf := by
                        have : X = 0 ∨ X = 1 := by omega
                        rcases this with rfl | rfl
                        · exact ⟨_, Blk.cell hnf 1 rfl⟩
                        · exact ⟨_, Blk.cell hnf 2 rfl⟩
                      have n0 : Nd wc hb hbal (ptr .nil) (ptr tr) hk hv := hcut.att.1
                      have c2 : wc.cell? ⟨hb, 2, none⟩ = some (.pointer (ptr tr)) := Blk.cell n0 2 rfl
                      obtain ⟨cg, hcg⟩ : ∃ cg, Blk wc g.b 94 cg := ⟨_, hnf⟩
                      obtain ⟨ch, hch⟩ : ∃ ch, Blk wc b' 94 ch := ⟨_, hcut.nb⟩
                      have hV3 : ∀ w'' : World, w''.heap = wc.heap → (binOp .eql 88 (.pointer (some ⟨g.b, 0, none⟩)) (.pointer (some ⟨b', 0, none⟩))).run Try.prog w'' = .ok (.bool g.d) w'' := by
                        intro w'' hw
                        rcases hgd with ⟨-, h1, h2⟩ | ⟨h1, h2⟩
                        · rw [h1, h2]; exact eql_same w'' _
                        · rw [h1]
                          have k3' : Blk w'' g.b 94 cg := by show w''.heap[_]? = _; rw [hw]; exact hcg
                          have k4' : Blk w'' b' 94 ch := by show w''.heap[_]? = _; rw [hw]; exact hch
                          exact eql_other k3' k4' h2
                      have hib := fun w' => ifb_any g.d w'
                      rw [hX] at hib
                      have HIB := Lib.hid hib
                      obtain ⟨gd, hgd2⟩ : ∃ x, g.d = x := ⟨_, rfl⟩
                      rw [hgd2] at hV3 HIB
                      have hV4 := Lib.hid (hV3 wc.drew rfl)
                      have hV5 := hV3 wc rfl
                      have HX3 := Lib.hid hX3
                      have HM3 := Lib.hid hm
                      have HQM := Lib.hid hqm
                      have HQG := Lib.hid hqg
                      have HJ := Lib.hid hj
                      have HTR := Lib.hid hcut.att.2.2
                      have t1 : IntKind.i64.wrap ((tn : Int) - 1) = (m : Int) := by have h := IntWalk.i64_in ((tn : Int) - 1) (by omega); rw [h]; omega
                      have i5 : (m : Int) < 64 := by omega
                      have i6 : (0 : Int) ≤ (m : Int) := by omega
                      have x1 : (X : Int) < 2 := by omega
                      have x2 : (0 : Int) ≤ (X : Int) := by omega
                      clear hcut hj har hgd hqg hm hqm hX hX3 hcf hnf n0 hV3 hib hgd2 hX2 hcg hch
                      go_upto_region 49 with fail
                      refine wp_region_still_tail 21 (by kernel_rfl) (by kernel_rfl) ?_
                      simp only [List.take_succ_cons, List.take_zero, List.drop_succ_cons, List.drop_zero]
                      repeat still_step
                      refine wpStill_step (fun K hK => ?_)
                      go_simp
                      rw [hV4.out]
                      refine ⟨rfl, hK _ ?_⟩
                      clear hK K
                      still_call (HIB.out _)
                      repeat still_step
                      refine wpStill_nil ?_
                      change wpList _ _ _ _ _ wc.drew
                      clear hV4 hV5
                      go_wp2_with fail
                      go_meet
                      have hlk := (HJ.out.link (ptr tr)).1
                      have hlf := (HJ.out.link (ptr tr)).2
                      rw [HX3.out] at hlk hlf
                      have hnd := HJ.out.nd
                      have hold := HJ.out.old
                      have hvv := HV.out
                      obtain ⟨z1, z2, z3, -⟩ := heir_plain (b := b) (b' := b') HPLG.out HLFS.out (HSA.out.vc.2 hvv.1) hvv.2
                      rw [HQG.out] at z1 z3
                      refine ⟨q ++ [g], tr, by rw [List.length_append, HM3.out, ← HQM.out]; rfl, (hlk.hang _ ?_ (fun x hx => hold x ?_)).drew, (HTR.out.fr hlf (fun x hx e => ?_)).below (Below.refl _ _).drew, z2, z1, ?_, by have := HQM.out; rw [List.length_append, HM3.out]; simp; omega⟩
                      · exact (List.Sublist.append (List.Sublist.refl _) (List.sublist_cons_self hb _)).nodup hnd
                      · rcases List.mem_append.1 hx with hx | hx
                        · exact List.mem_append_left _ hx
                        · exact List.mem_append_right _ (List.mem_cons_of_mem _ hx)
                      · rw [List.mem_singleton] at e
                        exact (List.nodup_append.1 hnd).2.2 g.b (by rw [cblocks_append]; simp [cblocks]) x (List.mem_cons_of_mem _ hx) (by rw [e])
                      · rw [z3, HDL.out.1, HSA.out.lefts, HSA.out.rights]
                  | nd lb2 lbal2 ll2 lk2 lv2 lr2 =>
                    have c1 : wr.cell? ⟨hb, 1, none⟩ = some (.pointer (some ⟨lb2, 0, none⟩)) := c1
                    obtain ⟨uC, hC⟩ := HST.out.ar.someC tn (by omega)
                    obtain ⟨uD, hD⟩ := HST.out.ar.someD tn (by omega)
                    have fC := HST.out.ar.freeC tn
                    have fD := HST.out.ar.freeD tn
                    have hbn := HST.out.ar.ne HST.out.att.1 (by decide) (by decide)
                    have e1 : ¬ hb = C := hbn.1
                    have e2 : ¬ hb = D := hbn.2
                    have e3 : ¬ C = hb := fun e => hbn.1 e.symm
                    have e4 : ¬ D = hb := fun e => hbn.2 e.symm
                    have hpush := HST.out.push (len := tn) (by rw [HPLEN.out]; exact HTN.out) (by omega) HDF.out.1.1 HDF.out.1.2.1 HDF.out.2.1 HDF.out.2.2
                    have HPU := Lib.hid hpush
                    clear hpush hbn c3
                    cases gk with
                    | zero => simp [T.h] at hkk
                    | succ kk =>
                      go_wp2_with fail
                      go_roundg kk
                      case measure => omega
                      case rel =>
                        refine ⟨hs ++ [⟨hb, hbal, false, tr, hk, hv⟩], lb2, lbal2, ll2, lk2, lv2, lr2, ?_, rfl, HPU.out, ?_, ?_, ?_⟩
                        · have := HTN.out
                          rw [List.length_append]
                          simp only [List.length_cons, List.length_nil]
                          go_num
                        · rw [plug_append]; exact HPLG.out
                        · rw [lefts_append, HLFS.out]; rfl
                        · simp only [T.h] at hkk ⊢; omega
                -- E]]
            case rest =>
              -- [[F
              obtain ⟨fs0, t0, rfl, hd0, ha0, hv0, hc0, hl0, h60⟩ := hcut
              have hfin : Hid ((T0.toL.filter (fun x => decide (x.1 ≠ k))).length = M) := Lib.hid (by
                have h1 := HDL.out.2.2
                rw [← HDL.out.1, HL.out, HM.out] at h1
                omega)
              have HD0 := Lib.hid hd0
              have HA0 := Lib.hid ha0
              have HV0 := Lib.hid hv0
              have HC0 := Lib.hid hc0
              have HL0 := Lib.hid hl0
              have H60 := Lib.hid h60
              obtain ⟨N0, hN0⟩ : ∃ N0, fs0.length = N0 := ⟨_, rfl⟩
              rw [hN0]
              have HN0 := Lib.hid hN0
              clear hd0 ha0 hv0 hc0 hl0 h60 hN0 n1 n2
              go_wp2_with fail
              go_loopg [9] N0 (fun kk s9 wr => UpRel w i M C D dn T0 k kk s9 wr)
              case atStart => exact ⟨fs0, t0, false, by rw [HN0.out], HD0.out, HA0.out, HV0.out, HC0.out, HL0.out, H60.out, by rw [HN0.out]; exact Nat.le_refl _⟩
              case round =>
                clear HD0 HA0 HV0 HC0 HL0 H60 HN0
                obtain ⟨fs2, t, stop, rfl, hds, hat, hvt, hvc, hls, h60, hkk⟩ := hrel
                have hdn0 := Blk.cell hds.dne 0 rfl
                obtain ⟨len2, hlen2⟩ : ∃ len2, fs2.length = len2 := ⟨_, rfl⟩
                have HLEN2 := Lib.hid hlen2
                rw [hlen2] at h60 hkk ⊢
                have t1 : IntKind.i64.wrap ((len2 : Int) - 1) = (len2 : Int) - 1 := IntWalk.i64_in _ (by omega)
                have HDS := Lib.hid hds
                have HAT := Lib.hid hat
                have HVT := Lib.hid hvt
                have HVC := Lib.hid hvc
                have HLS := Lib.hid hls
                have hin : i < wr.heap.size := by
                  obtain ⟨_, _, _, hh⟩ := hds.head
                  exact Blk.lt hh
                clear hds hat hvt hvc hls hlen2
                cases stop with
                | true =>
                  have hdn0 : wr.cell? ⟨dn, 0, none⟩ = some (.int .i64 1) := hdn0
                  go_wp2_with fail
                  all_goals
                    go_ret
                    have := del_end HDS.out HAT.out HVT.out HVC.out HLS.out HT.out.srt hfin.out
                    rw [HDL.out.2.1] at this
                    exact this
                | false =>
                  have hdn0 : wr.cell? ⟨dn, 0, none⟩ = some (.int .i64 0) := hdn0
                  rcases List.eq_nil_or_concat fs2 with hp | ⟨p2, f, hp⟩
                  · subst hp
                    have hz : len2 = 0 := HLEN2.out.symm
                    subst hz
                    go_wp2_with fail
                    go_ret
                    have := del_end HDS.out HAT.out HVT.out trivial HLS.out HT.out.srt hfin.out
                    rw [HDL.out.2.1] at this
                    exact this
                  · rw [List.concat_eq_append] at hp
                    subst hp
                    obtain ⟨m, hm⟩ : ∃ m, p2.length = m := ⟨_, rfl⟩
                    have hml : m + 1 = len2 := by rw [← HLEN2.out, ← hm]; simp
                    have t2 : IntKind.i64.wrap ((len2 : Int) - 1) = (m : Int) := by rw [t1]; omega
                    have i3 : (m : Int) < 64 := by omega
                    have i4 : (0 : Int) ≤ (m : Int) := by omega
                    obtain ⟨hC, hD⟩ := HDS.out.ar.at_ (j := m) (f := f) (by rw [← hm]; simp)
                    have fC := HDS.out.ar.freeC m
                    obtain ⟨X, hX, hX2, hX3⟩ : ∃ X : Nat, (if f.d then (1 : Int) else 0) = (X : Int) ∧ X < 2 ∧ ((X : Int) != 0) = f.d := by
                      cases f.d
                      · exact ⟨0, rfl, by omega, rfl⟩
                      · exact ⟨1, rfl, by omega, rfl⟩
                    rw [hX] at hD
                    obtain ⟨-, hcf, -, -⟩ := (AtC_append wr p2 [f] _).1 HDS.out.ctx
                    have hnf : Nd wr f.b f.bal _ _ f.k f.v := hcf
                    have c0 := Blk.cell hnf 0 rfl
                    have f0 := Blk.free hnf 0
                    have hne := HDS.out.ar.ne hnf (by decide) (by decide)
                    have hnn := Nd.dn hnf HDS.out.dne
                    obtain ⟨hcp, hcf1⟩ := (VC_append p2 [f] _).1 (show VC (p2 ++ [f]) (t.h + 1) from HVC.out)
                    have hcase := low_case f t hcf1 HVT.out
                    have hfb : -1 ≤ f.bal ∧ f.bal ≤ 1 := ⟨hcf1.2.1, hcf1.2.2.1⟩
                    obtain ⟨fd, hfd⟩ : ∃ fd, f.d = fd := ⟨_, rfl⟩
                    have hlow : f.low.bal = f.bal + if fd then -1 else 1 := by rw [← hfd]; rfl
                    obtain ⟨fbal, hfbal⟩ : ∃ x, f.bal = x := ⟨_, rfl⟩
                    rw [hfbal] at c0 hlow hfb
                    obtain ⟨SB, hSB⟩ : ∃ x, f.low.bal = x := ⟨_, rfl⟩
                    rw [hSB] at hlow
                    rw [hfd] at hX3
                    have HSB := Lib.hid hSB
                    have HFD := Lib.hid hfd
                    have HX := Lib.hid hX
                    have HM3 := Lib.hid hm
                    have HML := Lib.hid hml
                    have HCASE := Lib.hid hcase
                    have HCP := Lib.hid hcp
                    have HLOWB := Lib.hid hlow
                    have HFBB := Lib.hid hfb
                    have HVS := Lib.hid hcf1.2.2.2.1
                    have HC0L := Lib.hid (Blk.cell (hnf.setB SB) 0 rfl)
                    obtain ⟨hdl, hal, hpl⟩ := HDS.out.lower HAT.out
                    rw [hSB] at hdl hal
                    have HDLO := Lib.hid hdl
                    have HALO := Lib.hid hal
                    have HPLO := Lib.hid hpl
                    have e1 : ¬ f.b = C := hne.1
                    have e2 : ¬ f.b = D := hne.2
                    have e3 : ¬ C = f.b := fun e => hne.1 e.symm
                    have e4 : ¬ D = f.b := fun e => hne.2 e.symm
                    have x1 : (X : Int) < 2 := by omega
                    have x2 : (0 : Int) ≤ (X : Int) := by omega
                    obtain ⟨fb, hfbe⟩ : ∃ x, f.b = x := ⟨_, rfl⟩
                    rw [hfbe] at hC c0 f0 HDLO HALO HPLO HC0L e1 e2 e3 e4
                    have HFBE := Lib.hid hfbe
                    clear t1 hX hcf hnf hne hnn hcp hcf1 hcase hfb hfd hlow hfbal hSB hdl hal hpl hfbe hm hml
                    go_upto_if 264 with fail
                    obtain ⟨wz, hwz⟩ : ∃ wz, wz = wr := ⟨_, rfl⟩
                    go_cut [284] from 265 to 284 (fun s284 wx => wx = wr.setCell ⟨fb, 0, none⟩ (.int .i8 SB))
                    case first =>
                      cases fd with
                      | false =>
                        have hA : IntKind.i8.wrap (fbal + 1) = SB := by
                          have h1 := HLOWB.out
                          have h2 := HFBB.out
                          simp only [Bool.false_eq_true, if_false] at h1
                          rw [h1]
                          simp only [IntKind.wrap, IntKind.signed, IntKind.bits]
                          simp
                          omega
                        go_wp2_with fail
                        go_meet
                        rfl
                      | true =>
                        have hA : IntKind.i8.wrap (fbal - 1) = SB := by
                          have h1 := HLOWB.out
                          have h2 := HFBB.out
                          simp only [if_true] at h1
                          rw [h1]
                          simp only [IntKind.wrap, IntKind.signed, IntKind.bits]
                          simp
                          omega
                        go_wp2_with fail
                        go_meet
                        rfl
                    case rest =>
                      subst hcut
                      have har2 := HDS.out.ar.fr (Fr.store wr (F := [fb]) (a := ⟨fb, 0, none⟩) (by simp) (.int .i8 SB)) (fun x hx => by rw [List.mem_singleton.1 hx]; exact ⟨e1, e2⟩)
                      obtain ⟨hC2, hD2⟩ := har2.at_ (j := m) (f := f) (by rw [← HM3.out]; simp)
                      rw [HX.out] at hD2
                      rw [HFBE.out] at hC2
                      obtain ⟨wl, hwl⟩ : ∃ wl, wl = wr.setCell ⟨fb, 0, none⟩ (.int .i8 SB) := ⟨_, rfl⟩
                      rw [← hwl] at HDLO HALO HC0L hC2 hD2 ⊢
                      have c0l : wl.cell? ⟨fb, 0, none⟩ = some (.int .i8 SB) := HC0L.out
                      clear har2 hwl hC hD c0 f0 fC hdn0 HC0L HDS HAT
                      have hsv : -2 ≤ SB ∧ SB ≤ 2 := by
                        have h1 := HLOWB.out
                        have h2 := HFBB.out
                        rw [h1]
                        cases fd <;> simp <;> omega
                      obtain ⟨FF, RR, hF, habs, hgt, heq⟩ := abs_fact SB hsv.1 hsv.2
                      have HABS := Lib.hid habs
                      obtain ⟨BIG, hBIG⟩ : ∃ x, decide (SB < -1 ∨ 1 < SB) = x := ⟨_, rfl⟩
                      obtain ⟨ONE, hONE⟩ : ∃ x, decide (SB = -1 ∨ SB = 1) = x := ⟨_, rfl⟩
                      rw [hBIG] at hgt
                      rw [hONE] at heq
                      have HBIG := Lib.hid hBIG
                      have HONE := Lib.hid hONE
                      clear habs hsv hBIG hONE
                      have hm1 := HM3.out
                      have hm2 := HML.out
                      cases gk with
                      | zero => omega
                      | succ kk =>
                      go_wp2_with fail
                      refine (HABS.out _).mono ?_
                      rintro e w' ⟨rfl, rfl⟩
                      go_upto_if 294 with fail
                      rcases HCASE.out with ⟨z1, z2, z3⟩ | ⟨z1, z2, z3⟩ | ⟨z1, z2, z3, z4⟩
                      · rw [HSB.out] at z1
                        have hz1 : ONE = false := by rw [← HONE.out, z1]; rfl
                        have hz2 : BIG = false := by rw [← HBIG.out, z1]; rfl
                        subst hz1
                        subst hz2
                        have HZ2 := Lib.hid z2
                        have HZ3 := Lib.hid z3
                        clear z1 z2 z3
                        go_wp2_with fail
                        refine (HABS.out _).mono ?_
                        rintro e w' ⟨rfl, rfl⟩
                        go_wp2_with fail
                        go_roundg kk
                        case measure => omega
                        case rel => exact ⟨p2, f.low.put t, false, by rw [HM3.out], by rw [HPLO.out]; exact HDLO.out, HALO.out, HZ2.out, by have := HCP.out; rw [← HZ3.out] at this; exact this, by rw [low_list]; exact HLS.out, by omega, by omega⟩
                      · rw [HSB.out] at z1
                        have hz1 : ONE = true := by rw [← HONE.out]; simp; omega
                        subst hz1
                        have HZ2 := Lib.hid z2
                        have HZ3 := Lib.hid z3
                        clear z1 z2 z3 hgt
                        go_wp2_with fail
                        go_ret
                        have := del_end (by rw [HPLO.out]; exact HDLO.out) HALO.out HZ2.out (by have := HCP.out; rw [← HZ3.out] at this; exact this) (by rw [low_list]; exact HLS.out) HT.out.srt hfin.out
                        rw [HDL.out.2.1] at this
                        exact this
                      · rw [HSB.out, HFD.out] at z1
                        have hz1 : ONE = false := by rw [← HONE.out, z1]; cases fd <;> rfl
                        have hz2 : BIG = true := by rw [← HBIG.out, z1]; cases fd <;> rfl
                        subst hz1
                        subst hz2
                        have HRM := Lib.hid (rem_low HX.out (HALO.out.below (Below.refl _ w').drew) (List.nodup_append.1 HDLO.out.nd).2.1 z2 HVT.out HVS.out HDLO.out.drew.dne)
                        rw [HFBE.out] at HRM
                        have HZ4 := Lib.hid z4
                        clear z1 z2 z3 z4
                        go_wp2_with fail
                        refine (HABS.out _).mono ?_
                        rintro e w' ⟨rfl, rfl⟩
                        have HCALL : Hid (Calls Try.prog 52 #[.pointer (some ⟨fb, 0, none⟩), .int .i64 (X : Int), .pointer (some ⟨dn, 0, none⟩)] w'.drew fun e w4 => ∃ (S' : T) (stop : Bool) (c : Nat) (uC : Value), e = .returned (.pointer (some ⟨c, 0, none⟩)) ∧ ptr S' = some ⟨c, 0, none⟩ ∧ At w4 S' ∧ V S' ∧ S'.toL = (f.low.put t).toL ∧ S'.h + (if stop then 0 else 1) = f.sib.h + 1 ∧ DSt w i T0.blocks M C D dn (if stop then 1 else 0) p2 (some ⟨fb, 0, none⟩) S'.blocks w4 ∧ w4.cell? ⟨C, m, none⟩ = some uC ∧ w4.frozen? ⟨C, m, none⟩ = false) := Lib.hid (by
                          refine HRM.out.mono ?_
                          rintro e w4 ⟨S', stop, c, rfl, q1, q2, q3, q4, q5, q6, q7, q8, q9⟩
                          have hd4 := DSt.rem HDLO.out.drew (HALO.out.below (Below.refl _ w').drew) q9 q7 q3 q4 HDF.out.1.1 HDF.out.1.2.1 HDF.out.1.2.2
                          obtain ⟨uC, hC4⟩ := hd4.ar.someC m (by omega)
                          exact ⟨S', stop, c, uC, rfl, q1, q2, q5, q6, q8, hd4, hC4, hd4.ar.freeC m⟩)
                        clear HRM
                        go_upto_region 57 with fail
                        go_cut [315] from 305 to 316 (fun s315 wx => ∃ (S' : T) (stop : Bool) (c : Nat), ptr S' = some ⟨c, 0, none⟩ ∧ At wx S' ∧ V S' ∧ S'.toL = (f.low.put t).toL ∧ S'.h + (if stop then 0 else 1) = f.sib.h + 1 ∧ DSt w i T0.blocks M C D dn (if stop then 1 else 0) p2 (some ⟨fb, 0, none⟩) S'.blocks wx ∧ wx.cell? ⟨C, m, none⟩ = some (.pointer (some ⟨c, 0, none⟩)))
                        case first =>
                          go_region_law ((go_simp; go_at_call 52; refine Calls.mono HCALL.out ?_; rintro e' w4 ⟨S', stop, c, uC, rfl, q1, q2, q3, q4, q5, q6, q7, q8⟩; have HQ1 := Lib.hid q1; have HQ2 := Lib.hid q2; have HQ3 := Lib.hid q3; have HQ4 := Lib.hid q4; have HQ5 := Lib.hid q5; have HQ6 := Lib.hid q6; clear q1 q2 q3 q4 q5 q6))
                          all_goals (try go_wp2_with fail)
                          all_goals
                            go_meet
                            refine ⟨S', stop, c, HQ1.out, HQ2.out.fr (Fr.store w4 (F := [C]) (a := ⟨C, m, none⟩) (by simp) _) (fun x hx e => ?_), HQ3.out, HQ4.out, HQ5.out, HQ6.out.junk m (by omega) _ HDF.out.1.1 HDF.out.2.1, HQ6.out.ar.junkCell m (by omega) _⟩
                            obtain ⟨cs, hk⟩ := at_blk HQ2.out hx
                            exact (HQ6.out.ar.ne hk (by decide) (by decide)).1 (List.mem_singleton.1 e)
                        case rest =>
                          -- [[G
                          as_aux_lemma =>
                          obtain ⟨S', stop, c, hps, has, hvs, hts, hhs, hds, hcc⟩ := hcut
                          have HPS := Lib.hid hps
                          have HAS := Lib.hid has
                          have HVS2 := Lib.hid hvs
                          have HTS := Lib.hid hts
                          have HHS := Lib.hid hhs
                          have HDS2 := Lib.hid hds
                          clear hps has hvs hts hhs hds hC2 hD2 c0l hF hgt heq
                          rcases List.eq_nil_or_concat p2 with hp | ⟨p3, f3, hp⟩
                          · subst hp
                            have hz : m = 0 := hm1.symm
                            subst hz
                            obtain ⟨db3, dl3, dr3, hh3⟩ := HDS2.out.head
                            have c0 := hh3.cell 0 rfl
                            have f0 := hh3.free 0
                            clear hh3
                            go_wp2_with fail
                            go_roundg kk
                            case measure => omega
                            case rel =>
                              have hrt := HDS2.out.root (some ⟨c, 0, none⟩) HDF.out.1.2.2 HDF.out.2.1 HDF.out.2.2
                              refine ⟨[], S', stop, rfl, by rw [HPS.out]; exact hrt.1, HAS.out.fr hrt.2 (fun x hx e => ?_), HVS2.out, trivial, by rw [HTS.out, low_list]; exact HLS.out, by simp, by simp⟩
                              obtain ⟨cs, hk⟩ := at_blk HAS.out hx
                              exact HDS2.out.head.ne hk (List.mem_singleton.1 e)
                          · rw [List.concat_eq_append] at hp
                            subst hp
                            obtain ⟨m3, hm3⟩ : ∃ m3, p3.length = m3 := ⟨_, rfl⟩
                            have hml3 : m3 + 1 = m := by rw [← hm1, ← hm3]; simp
                            obtain ⟨hC3, hD3⟩ := HDS2.out.ar.at_ (j := m3) (f := f3) (by rw [← hm3]; simp)
                            obtain ⟨X3, hX3', hX32, hX33⟩ : ∃ X : Nat, (if f3.d then (1 : Int) else 0) = (X : Int) ∧ X < 2 ∧ (if f3.d then 2 else 1) = 1 + X := by
                              cases f3.d
                              · exact ⟨0, rfl, by omega, rfl⟩
                              · exact ⟨1, rfl, by omega, rfl⟩
                            obtain ⟨-, hcf, -, -⟩ := (AtC_append wc p3 [f3] _).1 HDS2.out.ctx
                            have hnf : Nd wc f3.b f3.bal _ _ f3.k f3.v := hcf
                            have ff := Blk.free hnf (1 + X3)
                            obtain ⟨uf, huf⟩ : ∃ uf, wc.cell? ⟨f3.b, 1 + X3, none⟩ = some uf := by
                              have : X3 = 0 ∨ X3 = 1 := by omega
                              rcases this with rfl | rfl
                              · exact ⟨_, Blk.cell hnf 1 rfl⟩
                              · exact ⟨_, Blk.cell hnf 2 rfl⟩
                            rw [hX3'] at hD3
                            have HX3 := Lib.hid hX33
                            have t4 : IntKind.i64.wrap ((m : Int) - 1) = (m3 : Int) := by have h := IntWalk.i64_in ((m : Int) - 1) (by omega); rw [h]; omega
                            have t5 : ((m : Int) != 0) = true := by rw [bne_iff_ne]; omega
                            have i5 : (m3 : Int) < 64 := by omega
                            have i6 : (0 : Int) ≤ (m3 : Int) := by omega
                            have y1 : (X3 : Int) < 2 := by omega
                            have y2 : (0 : Int) ≤ (X3 : Int) := by omega
                            have HM33 := Lib.hid hm3
                            clear hX3' hX33 hcf hnf hm3
                            go_upto_region 59 with fail
                            refine wp_region_still_tail 17 (by kernel_rfl) (by kernel_rfl) ?_
                            simp only [List.take_succ_cons, List.take_zero, List.drop_succ_cons, List.drop_zero]
                            repeat still_step
                            refine wpStill_nil ?_
                            change wpList _ _ _ _ _ wc.drew
                            go_wp2_with fail
                            go_roundg kk
                            case measure => omega
                            case rel =>
                              have hlk := (HDS2.out.link (some ⟨c, 0, none⟩)).1
                              have hlf := (HDS2.out.link (some ⟨c, 0, none⟩)).2
                              rw [HX3.out] at hlk hlf
                              have hnd := HDS2.out.nd
                              refine ⟨p3 ++ [f3], S', stop, by rw [hm1], by rw [HPS.out]; exact hlk.drew, (HAS.out.fr hlf (fun x hx e => ?_)).below (Below.refl _ _).drew, HVS2.out, by rw [HHS.out, ← HZ4.out]; exact HCP.out, by rw [HTS.out, low_list]; exact HLS.out, by omega, by omega⟩
                              rw [List.mem_singleton] at e
                              exact (List.nodup_append.1 hnd).2.2 f3.b (by rw [cblocks_append]; simp [cblocks]) x hx (by rw [e])
                          -- G]]
              -- F]]
        | cons f q =>
          -- [[B
          as_aux_lemma =>
          have hfj : (p ++ f :: q)[plen]? = some f := by rw [← hplen]; simp
          obtain ⟨hC, hD⟩ := hdst.ar.at_ hfj
          obtain ⟨hcp, hcf, hcs, hcq⟩ := (AtC_append wr p (f :: q) _).1 hdst.ctx
          have hnf : Nd wr f.b f.bal (if f.d then ptr f.sib else top q (some ⟨y, 0, none⟩)) (if f.d then top q (some ⟨y, 0, none⟩) else ptr f.sib) f.k f.v := hcf
          obtain ⟨X, hX, hX2, hX3⟩ : ∃ X : Nat, (if f.d then (1 : Int) else 0) = (X : Int) ∧ X < 2 ∧ (if f.d then 2 else 1) = 1 + X := by
            cases f.d
            · exact ⟨0, rfl, by omega, rfl⟩
            · exact ⟨1, rfl, by omega, rfl⟩
          obtain ⟨cb, hcb, hcn⟩ : ∃ cb, top q (some ⟨y, 0, none⟩) = some ⟨cb, 0, none⟩ ∧ ∃ cbal cl cr ck cv, Nd wr cb cbal cl cr ck cv ∧ ChildOf q (some ⟨y, 0, none⟩) cb cbal cl cr ck cv := by
            cases q with
            | nil =>
              have h1 := hy (by simp)
              refine ⟨y, rfl, ?_⟩
              injection h1 with h1
              injection h1 with h1
              subst h1
              exact ⟨_, _, _, _, _, hat.1, trivial⟩
            | cons g q' => exact ⟨g.b, rfl, _, _, _, _, _, hcq.1, rfl, rfl, rfl, rfl, rfl, rfl⟩
          obtain ⟨cbal, cl, cr, ck, cv, hcn, hcm⟩ := hcn
          have hch : wr.cell? ⟨f.b, 1 + X, none⟩ = some (.pointer (some ⟨cb, 0, none⟩)) := by
            rw [hcb] at hnf
            cases hd : f.d <;> rw [hd] at hX3 hnf <;> simp only [if_true, if_false, Bool.false_eq_true] at hX3 hnf
            · rw [← hX3]; exact Blk.cell hnf 1 rfl
            · rw [← hX3]; exact Blk.cell hnf 2 rfl
          rw [hX] at hD
          have hne := hdst.ar.ne hnf (by decide) (by decide)
          obtain ⟨fb, hfb⟩ : ∃ fb, f.b = fb := ⟨_, rfl⟩
          rw [hfb] at hC hch hne
          have HFB := Lib.hid hfb
          have HX3 := Lib.hid hX3
          have HCN := Lib.hid hcn
          have HCM := Lib.hid hcm
          have i1 : (plen : Int) < (len : Int) := by simp only [List.length_cons] at hpq; omega
          have i2 : (0 : Int) ≤ (plen : Int) := by omega
          have i3 : (plen : Int) < 64 := by omega
          have x1 : (X : Int) < 2 := by omega
          have x2 : (0 : Int) ≤ (X : Int) := by omega
          have hplt : plen < len := by omega
          have HCP := Lib.hid (fun w' h => copynode_any cb cbal cl cr ck cv w' h)
          clear hdst hat hsame hy hplen hfj hcp hcf hcs hcq hnf hX hX3 hcb hcn hcm hne hfb
          cases gk with
          | zero => simp at hql
          | succ kk =>
            go_wp2_with fail
            go_quiet (fail)
            have hbn := below_drewN (Below.refl wr.heap.size wr) nq
            have HDSA := Lib.hid (HDST.out.next hbn)
            have HATA := Lib.hid (HAT.out.below hbn)
            have HCNA := Lib.hid (HCN.out.below hbn)
            have hCA : (wr.drewN nq).cell? ⟨C, plen, none⟩ = some (.pointer (some ⟨fb, 0, none⟩)) := (hbn.cell (World.block_lt_of_cell? _ _ hC)).trans hC
            have hDA : (wr.drewN nq).cell? ⟨D, plen, none⟩ = some (.int .i64 (X : Int)) := (hbn.cell (World.block_lt_of_cell? _ _ hD)).trans hD
            have hchA : (wr.drewN nq).cell? ⟨fb, 1 + X, none⟩ = some (.pointer (some ⟨cb, 0, none⟩)) := (hbn.cell (World.block_lt_of_cell? _ _ hch)).trans hch
            obtain ⟨wA, hwA⟩ : ∃ wA, wA = wr.drewN nq := ⟨_, rfl⟩
            rw [← hwA] at HDSA HATA HCNA hCA hDA hchA ⊢
            have HCA := Lib.hid hCA
            have HDA := Lib.hid hDA
            have HCHA := Lib.hid hchA
            clear hwA hbn hC hD hch HDST HAT HCN
            go_wp2_with fail
            go_region_law ((go_simp; go_at_call 45; refine Calls.mono (HCP.out _ HCNA.out) ?_; rintro e' w4 ⟨rfl, hn4, hb4, hz4⟩; have HN4 := Lib.hid hn4; have HB4 := Lib.hid hb4; have HZ4 := Lib.hid hz4; clear hn4 hb4 hz4))
            have hb4 : Below wA.heap.size wA w4 := (Below.refl wA.heap.size wA).drew.trans HB4.out
            have HDS4 := Lib.hid (HDSA.out.next hb4)
            have HAT4 := Lib.hid (HATA.out.below hb4)
            have hD4 : w4.cell? ⟨D, plen, none⟩ = some (.int .i64 (X : Int)) := (hb4.cell (World.block_lt_of_cell? _ _ HDA.out)).trans HDA.out
            have hch4 : w4.cell? ⟨fb, 1 + X, none⟩ = some (.pointer (some ⟨cb, 0, none⟩)) := (hb4.cell (World.block_lt_of_cell? _ _ HCHA.out)).trans HCHA.out
            obtain ⟨c, hc⟩ : ∃ c, wA.heap.size = c := ⟨_, rfl⟩
            have hcw : wA.drew.heap.size = c := hc
            have HCC := Lib.hid hc
            have hn4 : Nd w4 c cbal cl cr ck cv := by rw [← hcw]; exact HN4.out
            have hz4 : w4.heap.size = c + 1 := by rw [← hcw]; exact HZ4.out
            have HN5 := Lib.hid hn4
            have HZ5 := Lib.hid hz4
            have HB5 := Lib.hid hb4
            have ff4 : w4.frozen? ⟨fb, 1 + X, none⟩ = false := by
              obtain ⟨-, hf1, -⟩ := (AtC_append w4 p (f :: q) _).1 HDS4.out.ctx
              rw [← HFB.out]
              exact Blk.free (show Nd w4 f.b _ _ _ _ _ from hf1) (1 + X)
            clear hn4 hz4 hb4 hCA hDA hchA hcw HN4 HB4 HZ4 HCNA HCP
            try rw [hc]
            go_upto_region 26 with fail
            clear hc
            refine wp_region_still_tail 9 (by kernel_rfl) (by kernel_rfl) ?_
            simp only [List.take_succ_cons, List.take_zero, List.drop_succ_cons, List.drop_zero]
            repeat still_step
            refine wpStill_nil ?_
            change wpList _ _ _ _ _ w4.drew
            go_upto_region 27 with fail
            have hlt4 := AtC.lt HDS4.out.ctx
            have t1 : IntKind.i64.wrap ((len : Int) - 1) = (len : Int) - 1 := IntWalk.i64_in _ (by omega)
            have t2 : IntKind.i64.wrap ((plen : Int) + 1) = (plen : Int) + 1 := IntWalk.i64_in _ (by omega)
            clear hD4 hch4 ff4
            cases q with
            | nil =>
              have hpl1 : plen + 1 = len := by simpa using hpq
              have hq1 : ((plen : Int) == (len : Int) - 1) = true := by rw [beq_iff_eq]; omega
              have hq2 : ((plen : Int) != (len : Int) - 1) = false := by simp only [bne, hq1]; rfl
              have hlk := (HDS4.out.link (some ⟨c, 0, none⟩)).1
              have hlf := (HDS4.out.link (some ⟨c, 0, none⟩)).2
              rw [HX3.out, HFB.out] at hlk hlf
              have hat5 : At (w4.setCell ⟨fb, 1 + X, none⟩ (.pointer (some ⟨c, 0, none⟩))) (.nd b bal l k v r) := HAT4.out.fr hlf (fun x hx e => by
                have h1 := (List.nodup_append.1 HDS4.out.nd).2.2 f.b (by rw [cblocks_append]; simp [cblocks]) x hx
                rw [List.mem_singleton] at e
                exact h1 (by rw [HFB.out, e]))
              have HLK := Lib.hid hlk.drew
              have HAT5 := Lib.hid (hat5.below (Below.refl _ _).drew)
              clear hlk hlf hat5 hlt4 HDS4 HAT4 HDSA HATA
              go_wp2_with fail
              go_roundg kk
              case measure => omega
              case rel => exact ⟨p ++ [f], [], c, by rw [List.length_append, HPLEN.out]; go_num, by simp at hql ⊢; omega, by simpa using HSA.out, by simpa using HLK.out, HAT5.out, fun h => absurd rfl h⟩
            | cons g q' =>
              have hq1 : ((plen : Int) == (len : Int) - 1) = false := by rw [beq_eq_false_iff_ne]; simp only [List.length_cons] at hpq; omega
              have hq2 : ((plen : Int) != (len : Int) - 1) = true := by simp only [bne, hq1]; rfl
              have hpl64 : plen + 1 < 64 := by omega
              obtain ⟨-, m2, m3, m4, m5, m6⟩ := HCM.out
              have hng : Nd w4 c g.bal (if g.d then ptr g.sib else top q' (some ⟨y, 0, none⟩)) (if g.d then top q' (some ⟨y, 0, none⟩) else ptr g.sib) g.k g.v := by
                have := HN5.out
                rw [m2, m3, m4, m5, m6] at this
                exact this
              have hcm := HDSA.out.copyMid HB5.out HCC.out.symm hng (fun x hx => HATA.out.lt x hx) HDF.out.1.1 HDF.out.2.1
              have hlf := (HDS4.out.nodeFr (show Nd w4 f.b _ _ _ _ _ from ((AtC_append w4 p (f :: g :: q') _).1 HDS4.out.ctx).2.1) (HDS4.out.own (List.mem_append_left _ (by rw [cblocks_append]; simp [cblocks]))) (if f.d then 2 else 1) (.pointer (some ⟨c, 0, none⟩)))
              have har5 := hlf.2.2.1
              have hfr5 := hlf.2.2.2.2
              rw [HX3.out, HFB.out] at hcm har5 hfr5
              rw [HPLEN.out] at hcm
              have hfC := (Fr.store (w4.setCell ⟨fb, 1 + X, none⟩ (.pointer (some ⟨c, 0, none⟩))) (F := [C]) (a := ⟨C, plen + 1, none⟩) (by simp) (.pointer (some ⟨c, 0, none⟩)))
              have hat5 : At (w4.setCell ⟨fb, 1 + X, none⟩ (.pointer (some ⟨c, 0, none⟩))) (.nd b bal l k v r) := HAT4.out.fr hfr5 (fun x hx e => by
                have h1 := (List.nodup_append.1 HDS4.out.nd).2.2 f.b (by rw [cblocks_append]; simp [cblocks]) x hx
                rw [List.mem_singleton] at e
                exact h1 (by rw [HFB.out, e]))
              have hat6 := hat5.fr hfC (fun x hx e => by
                have := har5.at_ne hat5 x hx
                rw [List.mem_singleton] at e
                exact this (by simp [e]))
              obtain ⟨uC, huC⟩ := har5.someC (plen + 1) hpl64
              have hfrC := har5.freeC (plen + 1)
              have HCMID := Lib.hid hcm.drew
              have HAT6 := Lib.hid (hat6.below (Below.refl _ _).drew)
              obtain ⟨w5, hw5⟩ : ∃ w5, w5 = (w4.setCell ⟨fb, 1 + X, none⟩ (.pointer (some ⟨c, 0, none⟩))).drew := ⟨_, rfl⟩
              have huC5 : w5.cell? ⟨C, plen + 1, none⟩ = some uC := by rw [hw5]; exact huC
              have hfC5 : w5.frozen? ⟨C, plen + 1, none⟩ = false := by rw [hw5]; exact hfrC
              have HW5 := Lib.hid hw5
              rw [← hw5]
              have i4 : (plen : Int) + 1 < 64 := by omega
              have i5 : (0 : Int) ≤ (plen : Int) + 1 := by omega
              clear hng hcm hlf har5 hfr5 hfC hat5 hat6 huC hfrC hw5 hlt4 HDS4 HAT4 HDSA HATA m2 m3 m4 m5 m6
              go_wp2_with fail
              go_roundg kk
              case measure => omega
              case rel =>
                rw [HW5.out]
                refine ⟨p ++ [f], { g with b := c } :: q', y, by rw [List.length_append, HPLEN.out]; go_num, by simp at hql ⊢; omega, ?_, ?_, HAT6.out, fun _ => HY.out (by simp)⟩
                · have h1 := same_mid (p ++ [f]) q' g c
                  rw [List.append_assoc] at h1 ⊢
                  exact h1.trans (by have h2 := HSA.out; simpa using h2)
                · have h2 := HCMID.out
                  rw [List.append_assoc]
                  exact h2
          -- B]]
end Go.Proofs.Ytidekgmpbcnfmaa
