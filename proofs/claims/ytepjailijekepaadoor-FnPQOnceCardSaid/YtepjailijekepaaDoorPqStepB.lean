/- Walk of impl.pqStep: taking. -/
import Derived.Test.YtepjailijekepaaDoorPqStep
import Derived.Test.YtepjailijekepaaDoorApRow
namespace Go.Proofs.YtepjailijekepaaDoor
set_option linter.unusedVariables false
open Go.RowKit
open Pqm

theorem info_pqit : (Tryd.prog.info? 45).map (fun i => (i.zero, i.size, i.bytes)) = some (some (.agg #[.int .i64 0, .int .i64 0]), 2, 16) := by kernel_rfl
theorem rw_two (w : World) (e : TypeId) (x y : Value) : Rw 2 (w.alloc (.cells #[x, y] e)) (.slice (some ⟨w.heap.size, 0, none⟩) 1 1) [[x, y]] := by
  refine ⟨_, 1, 1, rfl, rfl, Nat.le_refl _, by unfold maxLen; omega, fun _ => ⟨_, 0, rfl, fun i row hi j u hu => ?_⟩⟩
  have hb := Blk.new w e #[x, y]
  cases i with
  | succ i => simp at hi
  | zero =>
    simp at hi
    subst hi
    match j, hu with
    | 0, hu => simp at hu; subst hu; simp [hb.cell 0 rfl]
    | 1, hu => simp at hu; subst hu; simp [hb.cell 1 rfl]
    | j + 2, hu => simp at hu
theorem rw_twoD (w : World) (e : TypeId) (x y : Value) : Rw 2 (w.alloc (.cells #[x, y] e)).drew (.slice (some ⟨w.heap.size, 0, none⟩) 1 1) [[x, y]] := (rw_two w e x y).below rfl (Below.refl _ _).drew

theorem ks_takes {dup : Bool} {q' : List It} : ∀ {got ks q : List It}, KsOk dup ks q → Takes q got q' → KsOk dup (eraseAll ks got) q'
  | [], ks, q, h, ht => by
    have ht : q.Perm q' := ht
    unfold KsOk at h ⊢
    cases dup with
    | true => simpa [eraseAll] using h
    | false => exact ⟨h.1.trans ht, ht.nodup_iff.1 h.2⟩
  | x :: r, ks, q, h, ht => by
    have e : eraseAll ks (x :: r) = eraseAll (ks.erase x) r := rfl
    rw [e]
    refine ks_takes (q := q.erase x) ?_ ht.2.2
    unfold KsOk at h ⊢
    cases dup with
    | true =>
      have h : ks = [] := by simpa using h
      simp [h]
    | false => exact ⟨h.1.erase x, h.2.erase x⟩

theorem ownp_len {w : World} {B : Nat} {e : TypeId} {size : Nat} {p : Option Addr} {m c n : Nat} {xs : List Value} (h : w.ownsRow B e size (.slice p m c) n xs) : m = n := by
  rcases h.2 with ⟨e1, e2⟩ | ⟨g, cap, cur, e1, _⟩
  · injection e1 with _ e3 _; omega
  · injection e1
theorem first_drew {a w : World} {row : Option Nat} (h : a.grownBy w row) : a.grownBy w row := h

theorem gb_trans0 {a w w' : World} {row : Option Nat} (hb : Below a.heap.size a w) (hg : w.grownBy w' row) : a.grownBy w' row :=
  ⟨hg.os.trans hb.os, hg.tape.trans hb.tape, hg.output.trans hb.output, Nat.le_trans hb.size hg.size, fun k hk hne => (hg.block k (Nat.lt_of_lt_of_le hk hb.size) hne).trans (hb.block k hk)⟩

def TookLoop (n r : Nat) (got : List It) (w : World) (k : Nat) (idx : Value) (wr : World) : Prop :=
  ∃ (i : Nat) (pa : Option Addr) (ca : Nat), idx = .int .i64 (i : Int) ∧ i + k = n ∧ Blk wr r 33 #[.slice pa i ca, .int .i64 0, .bool false, .int .i64 0] ∧ wr.ownsRow w.heap.size 45 2 (.slice pa i ca) i (pfl (got.take i)) ∧ w.grownBy wr (some r)

set_option maxRecDepth 100000 in
set_option maxHeartbeats 2000000 in
theorem pstep2 (b m : Nat) (p : Option Addr) (q : List It) (dup : Bool) (N : Nat) (v : Value) (w : World) (H : PSt w b m p q false dup) (hq : q ≠ []) (hN0 : 1 ≤ N) (hN : N ≤ 1000) (h9 : q.length ≤ 100000) :
    Calls Tryd.prog 12 #[.pointer (some ⟨b, 0, none⟩), .agg #[.int .i64 2, .int .i64 (N : Int), v]] w fun e w' => ∃ (pa : Option Addr) (ca : Nat) (got q' : List It), e = .returned (.agg #[.slice pa got.length ca, .int .i64 0, .bool false, .int .i64 0]) ∧
      w'.ownsRow w.heap.size 45 2 (.slice pa got.length ca) got.length (pfl got) ∧ PSt w' b m p q' false dup ∧ Takes q got q' ∧ got.length = min N q.length ∧ PqFr b m (obk p) (obk p) w w' := by
  have HH := Lib.hid H
  have HQN := Lib.hid hq
  have H9 := Lib.hid h9
  have hn1 : (1 : Int) ≤ (N : Int) := by omega
  have hW : Below w.heap.size w ((w.alloc (.cells #[.int .i64 2, .int .i64 (N : Int), v] 24)).alloc (.cells #[.slice none 0 0, .int .i64 0, .bool false, .int .i64 0] 33)) := ((Below.refl _ _).alloc (Nat.le_refl _) _).alloc (by simp) _
  have HW := Lib.hid hW
  have hv1 : v.oneCell' = true → True := fun _ => trivial
  clear H hq h9 hW hv1
  go_enter Tryd.func12, Tryd.ntmps12
  go_wp2_with fail
  have hK := Blk.new (w.alloc (.cells #[.int .i64 2, .int .i64 (N : Int), v] 24)) 33 #[.slice none 0 0, .int .i64 0, .bool false, .int .i64 0]
  rw [show (w.alloc (.cells #[.int .i64 2, .int .i64 (N : Int), v] 24)).heap.size = w.heap.size + 1 by simp] at hK
  have hK2 := (Blk.new w 24 #[.int .i64 2, .int .i64 (N : Int), v]).alloc (.cells #[.slice none 0 0, .int .i64 0, .bool false, .int .i64 0] 33)
  obtain ⟨wB, hwB⟩ : ∃ wB, ((w.alloc (.cells #[.int .i64 2, .int .i64 (N : Int), v] 24)).alloc (.cells #[.slice none 0 0, .int .i64 0, .bool false, .int .i64 0] 33)) = wB := ⟨_, rfl⟩
  rw [hwB] at HW hK hK2 ⊢
  have hzB : wB.heap.size = w.heap.size + 2 := by rw [← hwB]; simp
  have HK := Lib.hid hK
  have HZB := Lib.hid hzB
  have hP := HH.out.below HW.out
  have HP := Lib.hid hP
  obtain ⟨c, L, ks, h1, h2, h3, h4, h5⟩ := hP.h
  have hL9 : L.length ≤ 100000 := by rw [h3.length_eq]; exact H9.out
  have hL0 : L.length ≠ 0 := by
    intro e
    have := h3.length_eq
    rw [e] at this
    exact HQN.out (List.eq_nil_of_length_eq_zero this.symm)
  have hE := Empty_any b m p c L ks false dup wB h1 hL9
  rw [show decide (L.length = 0) = false by simpa using hL0] at hE
  have HE := Lib.hid hE
  have HG := Lib.hid (Get_any b m p c L ks dup N wB h1 h2 hL9 hN0 hN)
  have HL3 := Lib.hid h3
  have HL4 := Lib.hid (h4 rfl)
  have e1 : wB.cell? ⟨w.heap.size, 1, none⟩ = some (.int .i64 (N : Int)) := hK2.cell 1 rfl
  clear hwB hK hK2 hP h1 h2 h3 h4 h5 hL0 hE hzB
  refine HE.out.mono ?_
  rintro e w' ⟨rfl, rfl⟩
  go_wp2_with fail
  refine HG.out.mono ?_
  rintro e w2 ⟨pl, cl, got, L', rfl, hown, hqs, hhp, htk, hlen, hfr⟩
  have hg9 : got.length ≤ 1000 := by rw [hlen]; exact Nat.le_trans (Nat.min_le_left _ _) hN
  obtain ⟨n, hn⟩ : ∃ n, got.length = n := ⟨_, rfl⟩
  rw [hn] at hown hg9 ⊢
  have HNG := Lib.hid hn
  have HO := Lib.hid hown
  have HP2 : Hid (PSt w2 b m p L' false dup) := Lib.hid ⟨c, L', eraseAll ks got, hqs, hhp, List.Perm.refl _, fun _ => ks_takes HL4.out (takes_perm HL3.out htk), fun h => by cases h⟩
  have HT := Lib.hid (takes_perm HL3.out htk)
  have HLN : Hid (got.length = min N q.length) := Lib.hid (by rw [hlen, HL3.out.length_eq])
  have HF := Lib.hid hfr
  have hlt := HH.out.lt
  have hz := HZB.out
  have HK2 := Lib.hid (hfr.blk HK.out (by omega) (by omega) (fun e => by have := hlt.2.2 _ e.symm; omega))
  have hzz : wB.heap.size ≤ w2.heap.size := hfr.size
  clear hown hqs hhp htk hlen hfr hn
  go_wp2_with fail
  refine (pqerr0 w2).mono ?_
  rintro e w3 ⟨rfl, rfl⟩
  go_wp2_with fail
  have hr := Blk.new w2 33 #[.slice none 0 0, .int .i64 0, .bool false, .int .i64 0]
  have hbC : Below w2.heap.size w2 (w2.alloc (.cells #[.slice none 0 0, .int .i64 0, .bool false, .int .i64 0] 33)) := (Below.refl _ _).alloc (Nat.le_refl _) _
  obtain ⟨wC, hwC⟩ : ∃ wC, w2.alloc (.cells #[.slice none 0 0, .int .i64 0, .bool false, .int .i64 0] 33) = wC := ⟨_, rfl⟩
  rw [hwC] at hr hbC ⊢
  have hzC : wC.heap.size = w2.heap.size + 1 := by rw [← hwC]; simp
  obtain ⟨r, hrr⟩ : ∃ r, w2.heap.size = r := ⟨_, rfl⟩
  rw [hrr] at hr hzC ⊢
  have HR := Lib.hid hr
  have HBC := Lib.hid hbC
  have HRR := Lib.hid hrr
  have HZC := Lib.hid hzC
  have hsl : Sl wC (.slice pl n cl) (itvs got) := (Sl.of_owns HO.out).below rfl HBC.out
  obtain ⟨al, nl, cl', hle, hll, hlc, hlm, hlr⟩ := hsl
  injection hle with hle1 hle2 hle3
  subst hle1; subst hle2; subst hle3
  have hblk : ∀ bb oo, pl = some ⟨bb, oo, none⟩ → bb < r := fun bb oo e => by
    have := (HO.out.lt bb (by rw [e]; rfl)).2
    rw [HRR.out] at this
    exact this
  clear hwC hr hbC hrr hzC hll
  go_loopg [65] n (fun k idx wr => TookLoop n r got wC k idx wr)
  case atStart => exact ⟨0, none, 0, rfl, by omega, HR.out, by simpa [pfl, pits] using World.ownsRow_nil wC wC.heap.size 45 2, gb_refl _ _⟩
  case round =>
    obtain ⟨i, pa, ca, rfl, hik, hblk2, hown, hgr⟩ := hrel
    have HB := Lib.hid hblk2
    have HOW := Lib.hid hown
    have HG2 := Lib.hid hgr
    have d0 : wr.drew.cell? ⟨r, 0, none⟩ = some (.slice pa i ca) := hblk2.cell 0 rfl
    have d0w : wr.cell? ⟨r, 0, none⟩ = some (.slice pa i ca) := hblk2.cell 0 rfl
    have f0 := hblk2.free 0
    have hsz := hgr.size
    clear hblk2 hown hgr
    by_cases hi : i < n
    · cases gk with
      | zero => omega
      | succ k =>
        obtain ⟨b1, o1, rfl, hcell⟩ := hlr (by omega)
        have hb1 := hblk b1 o1 rfl
        have h1 := hcell i _ (itvs_at got i (by rw [HNG.out]; exact hi))
        have h1b := HG2.out.cell h1 (fun e => by injection e with e; have e2 : b1 = r := e; omega)
        have ht := take_getI got i (by rw [HNG.out]; exact hi)
        obtain ⟨⟨x1, x2⟩, hX⟩ : ∃ X, got.getD i dI = X := ⟨_, rfl⟩
        rw [hX] at ht h1b
        have h1c : wr.cell? ⟨b1, o1 + i, none⟩ = some (.iface 55 (.agg #[.int .i64 x1, .int .i64 x2])) := h1b
        have d0a : (wr.alloc (.cells #[.int .i64 x1, .int .i64 x2] 45)).cell? ⟨r, 0, none⟩ = some (.slice pa i ca) := (HB.out.alloc _).cell 0 rfl
        have hta := assert_pqi
        have hpa := field_pqi x1 x2
        have HTK := Lib.hid ht
        clear hlr hcell hX ht h1 h1b hb1
        go_wp2_with fail
        go_region_law
          (first
            | (refine step_apRw (by rfl) (.tmp 70) (.tmp 74) 22 (by rfl) wC.heap.size 2 45 (.agg #[.int .i64 0, .int .i64 0]) 16 Tryd.underlying22 info_pqit rfl (by decide) (.slice pa i ca) i (pfl (got.take i)) (by rfl) ?_ (.slice (some ⟨wr.heap.size, 0, none⟩) 1 1) [[.int .i64 x1, .int .i64 x2]] (by rfl) ?_ ?_ ?_ ?_ ?_ ?_ ?_
               focus ((repeat (first | with_reducible exact HOW.out | with_reducible refine World.ownsRow.alloc ?_ _ | with_reducible refine row_drew ?_)); done)
               focus ((first | exact rw_two _ _ _ _ | exact rw_twoD _ _ _ _); done)
               focus (simp; done)
               focus (simp [Value.oneCell']; done)
               focus (unfold maxLen; simp; omega; done)
               focus (simp; omega; done)
               focus ((first | exact hsz | (simp; omega)); done)
               intro p9 m9 c9 w9 hown9 hg9 hb9
               have HO9 := Lib.hid hown9
               have HG9 : Hid (wC.grownBy w9 (some r)) := Lib.hid (gb_step (by (repeat (first | with_reducible exact HG2.out | with_reducible refine gb_drew ?_ | with_reducible refine gb_alloc ?_ _))) hg9 (fun k hk => .inr (HOW.out.lt k hk).1))
               have HBK9 : Hid (Blk w9 r 33 #[.slice pa i ca, .int .i64 0, .bool false, .int .i64 0]) := Lib.hid (Blk.grown (by (repeat (first | with_reducible exact HB.out | with_reducible refine Blk.drew ?_ | with_reducible refine Blk.alloc ?_ _))) hg9 (row_blkp HOW.out HB.out (by decide)))
               have c9a : w9.cell? ⟨r, 0, none⟩ = some (.slice pa i ca) := HBK9.out.cell 0 rfl
               have f9 := HBK9.out.free 0
               clear hown9 hg9 hb9)
            | fail)
        all_goals
          go_wp2_with fail
          go_roundg k
          case measure => omega
          case rel =>
            have hm : m9 = i + 1 := by have := ownp_len HO9.out; simpa using this
            subst hm
            refine ⟨i + 1, p9, c9, by go_num, by omega, ?_, ?_, gb_store (first_drew HG9.out) (.inl rfl) _⟩
            · simpa using HBK9.out.set 0 (.slice p9 (i + 1) c9)
            · rw [HTK.out, pfl_app, pfl_one]
              exact ownsRow_setCell_other (by simpa [pit] using HO9.out) (a := ⟨r, 0, none⟩) (row_blkp HO9.out HBK9.out (by decide)) _
    · obtain ⟨I, hI⟩ : ∃ I, I = n := ⟨_, rfl⟩
      obtain rfl : i = I := by omega
      subst hI
      have hd : decide ((i : Int) < (i : Int)) = false := by simp
      have d1 : wr.cell? ⟨r, 1, none⟩ = some (.int .i64 0) := HB.out.cell 1 rfl
      have d2 : wr.cell? ⟨r, 2, none⟩ = some (.bool false) := HB.out.cell 2 rfl
      have d3 : wr.cell? ⟨r, 3, none⟩ = some (.int .i64 0) := HB.out.cell 3 rfl
      have hzC := HZC.out
      have hrr := HRR.out
      have hkC := HK2.out.below HBC.out HK2.out.lt
      have hkr := hkC.grown HG2.out (fun e => by injection e with e; omega)
      have HKR := Lib.hid hkr
      have k0 : wr.cell? ⟨w.heap.size + 1, 0, none⟩ = some (.slice none 0 0) := hkr.cell 0 rfl
      have k1 : wr.cell? ⟨w.heap.size + 1, 1, none⟩ = some (.int .i64 0) := hkr.cell 1 rfl
      have k2 : wr.cell? ⟨w.heap.size + 1, 2, none⟩ = some (.bool false) := hkr.cell 2 rfl
      have k3 : wr.cell? ⟨w.heap.size + 1, 3, none⟩ = some (.int .i64 0) := hkr.cell 3 rfl
      have g0 := hkr.free 0
      have g1 := hkr.free 1
      have g2 := hkr.free 2
      have g3 := hkr.free 3
      have HHD := Lib.hid hlt
      clear hlr hblk hkC hkr hlt
      go_wp2_with fail
      have hB := st4_blk HKR.out rfl (.slice pa i ca) (.int .i64 0) (.bool false) (.int .i64 0)
      have c0 := hB.cell 0 rfl
      have c1 := hB.cell 1 rfl
      have c2 := hB.cell 2 rfl
      have c3 := hB.cell 3 rfl
      have hlt := HHD.out
      have hzz2 : w.heap.size + 1 < wC.heap.size := by omega
      have hfin : PqFr b m (obk p) (obk p) w wr := ((PqFr.of_below HW.out).trans HF.out).step (gb_trans0 HBC.out HG2.out) (fun j e => by injection e with e; omega)
      have hps : PSt wr b m p L' false dup := (HP2.out.below HBC.out).grown HG2.out (by omega) (by omega) (fun e => by have := hlt.2.2 _ e; omega)
      refine bodyPost_ret (v := .agg #[.slice pa i ca, .int .i64 0, .bool false, .int .i64 0]) (by simp [results, Tryd.results12, go_sem, c0, c1, c2, c3]) rfl ⟨pa, ca, got, L', by rw [HNG.out], ?_, ?_, HT.out, HLN.out, ?_⟩
      · rw [HNG.out]
        have ho := HOW.out
        rw [List.take_of_length_le (by rw [HNG.out]; exact Nat.le_refl _)] at ho
        exact rowp_weaken (ho.kept (st4_grown _ _ _ _ _ _) (.inr (fun e => by have := (HOW.out.lt _ e).1; omega))) (by omega)
      · exact hps.grown (st4_grown _ _ _ _ _ _) (by omega) (by omega) (fun e => by have := hlt.2.2 _ e; omega)
      · exact hfin.step (st4_grown _ _ _ _ _ _) (fun j e => by injection e with e; omega)
end Go.Proofs.YtepjailijekepaaDoor
