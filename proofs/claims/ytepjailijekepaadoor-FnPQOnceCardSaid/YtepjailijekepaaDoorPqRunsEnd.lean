/- FnPQRuns: the law. -/
import Derived.Test.YtepjailijekepaaDoorPqFew
namespace Go.Proofs.YtepjailijekepaaDoor
set_option linter.unusedVariables false
open Go.RowKit
open Pqm

theorem runs_at {dup : Bool} : ∀ {S : List Stp} {T : List Sad} {σ σ' : Que} {i : Nat} {s : Stp} {t : Sad}, Runs dup σ (S.drop i) (T.drop i) σ' → S[i]? = some s → T[i]? = some t → ∃ σ1, PStep dup σ s σ1 t ∧ Runs dup σ1 (S.drop (i + 1)) (T.drop (i + 1)) σ' := by
  intro S T σ σ' i s t h hs ht
  obtain ⟨h1, e1⟩ := List.getElem?_eq_some_iff.1 hs
  obtain ⟨h2, e2⟩ := List.getElem?_eq_some_iff.1 ht
  rw [List.drop_eq_getElem_cons h1, List.drop_eq_getElem_cons h2, e1, e2] at h
  exact h

/-- a said row in its block -/
theorem said_cells {w : World} {B b off n cap : Nat} {R : List (List Value)} {T : List Sad} (h : Rw 4 w (.slice (some ⟨b, off, none⟩) n cap) R) (hs : SaidAt w B R T) (i : Nat) (hi : i < n) :
    ∃ (t : Sad) (a : Option Addr) (c : Nat), T[i]? = some t ∧ w.cell? ⟨b, off + i * 4, none⟩ = some (.slice a t.1.length c) ∧ w.cell? ⟨b, off + i * 4 + 1, none⟩ = some (.int .i64 t.2.1) ∧ w.cell? ⟨b, off + i * 4 + 2, none⟩ = some (.bool t.2.2.1) ∧ w.cell? ⟨b, off + i * 4 + 3, none⟩ = some (.int .i64 t.2.2.2) ∧ Rw 2 w (.slice a t.1.length c) (pits t.1) := by
  obtain ⟨a, n', c', e, hn, hc, hm, hr⟩ := h
  injection e with e1 e2 e3
  subst e2
  obtain ⟨b', off', e4, hcell⟩ := hr (by omega)
  rw [← e1] at e4
  injection e4 with e4
  injection e4 with e4 e5
  subst e4; subst e5
  have hiR : i < R.length := by omega
  have hiT : i < T.length := by rw [← hs.1]; exact hiR
  obtain ⟨pa, ca, hrow, hown⟩ := hs.2 i _ _ (List.getElem?_eq_getElem hiR) (List.getElem?_eq_getElem hiT)
  have hR := List.getElem?_eq_getElem hiR
  rw [hrow] at hR
  refine ⟨T[i], pa, ca, List.getElem?_eq_getElem hiT, ?_, ?_, ?_, ?_, Rw.of_owns (pits_row _) (by decide) hown⟩
  · exact hcell i _ hR 0 _ rfl
  · have := hcell i _ hR 1 _ rfl; rwa [← Nat.add_assoc] at this
  · have := hcell i _ hR 2 _ rfl; rwa [← Nat.add_assoc] at this
  · have := hcell i _ hR 3 _ rfl; rwa [← Nat.add_assoc] at this

theorem rw_kept {S : Nat} {w w' : World} {v : Value} {rows : List (List Value)} {q : Nat} (h : Rw S w v rows) (hg : w.grownBy w' (some q)) (hq : ∀ a n c, v = .slice (some a) n c → a.block ≠ q) : Rw S w' v rows := by
  obtain ⟨a, n, cap, rfl, hn, hc, hm, hr⟩ := h
  refine ⟨a, n, cap, rfl, hn, hc, hm, fun hz => ?_⟩
  obtain ⟨b, off, rfl, hcell⟩ := hr hz
  refine ⟨b, off, rfl, fun i row hi j u hu => ?_⟩
  exact hg.cell (hcell i row hi j u hu) (fun e => hq _ _ _ rfl (by injection e))
theorem rw_lt {w : World} {v : Value} {l : List It} (h : Rw 2 w v (pits l)) (hl : l ≠ []) : ∀ a n c, v = .slice (some a) n c → a.block < w.heap.size := by
  intro a n c e
  obtain ⟨a', n', c', e', hn, hc, hm, hr⟩ := h
  rw [e'] at e
  injection e with e1 e2 e3
  rw [pits_len] at hn
  have h0 : 0 < n' := by
    cases l with
    | nil => exact absurd rfl hl
    | cons x r => simp at hn; omega
  obtain ⟨b, off, e4, hcell⟩ := hr h0
  rw [e1] at e4
  injection e4 with e4
  subst e4
  have hil : 0 < l.length := by omega
  exact World.block_lt_of_cell? w _ (hcell 0 _ (pits_at l 0 hil) 0 _ rfl)
/-- rows of elements stay while one block of another kind turns -/
theorem rw_stay {w w' : World} {v : Value} {l : List It} {q : Nat} (h : Rw 2 w v (pits l)) (hg : ∀ k, k < w.heap.size → k ≠ q → w'.heap[k]? = w.heap[k]?) (hq : ∀ x off, w.cell? ⟨q, off, none⟩ ≠ some (.int .i64 x)) : Rw 2 w' v (pits l) := by
  obtain ⟨a, n, cap, rfl, hn, hc, hm, hr⟩ := h
  refine ⟨a, n, cap, rfl, hn, hc, hm, fun hz => ?_⟩
  obtain ⟨b, off, rfl, hcell⟩ := hr hz
  refine ⟨b, off, rfl, fun i row hi j u hu => ?_⟩
  have h1 := hcell i row hi j u hu
  obtain ⟨x, _, hx⟩ := List.mem_map.1 (List.mem_of_getElem? hi)
  subst hx
  have hint : ∃ y, u = .int .i64 y := by
    match j, hu with
    | 0, hu => exact ⟨x.1, by simpa [pit] using hu.symm⟩
    | 1, hu => exact ⟨x.2, by simpa [pit] using hu.symm⟩
    | j + 2, hu => simp [pit] at hu
  obtain ⟨y, rfl⟩ := hint
  rw [← h1]
  exact World.cell?_of_block (hg b (World.block_lt_of_cell? w _ h1) (fun e => by subst e; exact hq _ _ h1))
theorem q_noint {w : World} {q : Nat} {t : TypeId} {x : Value} {b1 b2 : Bool} (h : Blk w q t #[x, .bool b1, .bool b2]) (hx : ∃ a n c, x = .slice a n c) : ∀ y off, w.cell? ⟨q, off, none⟩ ≠ some (.int .i64 y) := by
  intro y off e
  obtain ⟨a, n, c, rfl⟩ := hx
  rw [cell_of_row w q off _ t (0, 0) h] at e
  match off, e with
  | 0, e => simp at e
  | 1, e => simp at e
  | 2, e => simp at e
  | i + 3, e => simp at e

def LawLoop (n q : Nat) (S : List Stp) (T : List Sad) (dup : Bool) (σe : Que) (w : World) (k : Nat) (idx : Value) (wr : World) : Prop :=
  ∃ (i : Nat) (σ : Que) (qa : Option Addr) (qc : Nat), idx = .int .i64 (i : Int) ∧ i + k = n ∧ Blk wr q 37 #[.slice qa σ.2.length qc, .bool dup, .bool σ.1] ∧ Rw 2 wr (.slice qa σ.2.length qc) (pits σ.2) ∧ (σ.1 = true → σ.2 = []) ∧ Runs dup σ (S.drop i) (T.drop i) σe ∧ σ.2.length ≤ 100 * i ∧ w.grownBy wr (some q)

set_option maxRecDepth 100000 in
set_option maxHeartbeats 4000000 in
theorem law_pqruns (h : Int) (dup : Bool) (v : Value) (w : World) (hh : (Lit.int .u8 h).wf = true) (hv : AnySteps w v) (a0 a1 a2 : Addr) (hS : Sn w a0 a1 a2) :
    Calls Tryd.prog 4 #[.int .u8 h, .bool dup, v] w fun e w' => e = .returned (.bool true) ∧ Below w.heap.size w w' := by
  obtain ⟨R, S, hrw, hst⟩ := hv
  have hb : 0 ≤ h ∧ h ≤ 255 := by simp [Lit.wf, IntKind.min, IntKind.max, IntKind.signed, IntKind.bits] at hh; omega
  obtain ⟨N, rfl⟩ : ∃ N : Nat, h = (N : Int) := ⟨h.toNat, by omega⟩
  have hN : N < 256 := by omega
  have hfit := fits12_any v R S w hrw hst
  have HFI := Lib.hid hfit
  have HRW := Lib.hid hrw
  have HST := Lib.hid hst
  have HS := Lib.hid hS
  clear hb hh hfit
  obtain ⟨a, n, cap, rfl, hla, hc, hm, hr⟩ := id hrw
  have hnS : S.length = n := by rw [← hst.1, hla]
  have HNS := Lib.hid hnS
  clear hrw hst hS hla hnS
  go_enter Tryd.func4, Tryd.ntmps4
  go_wp2_with fail
  refine HFI.out.mono ?_
  rintro e w1 ⟨b, rfl, hb, hb1⟩
  have HB1 := Lib.hid hb1
  clear hb1
  cases b with
  | false =>
    go_wp2_with fail
    go_ret
    exact ⟨rfl, HB1.out⟩
  | true =>
    have HF := Lib.hid (few_any _ R S w1 (HRW.out.below rfl HB1.out) (HST.out.below HB1.out) (hb rfl))
    clear hb
    go_wp2_with fail
    refine HF.out.mono ?_
    rintro e w2 ⟨b, rfl, hb, hb2⟩
    have HB2 := Lib.hid (HB1.out.trans (hb2.mono HB1.out.size))
    clear hb2
    cases b with
    | false =>
      go_wp2_with fail
      go_ret
      exact ⟨rfl, HB2.out⟩
    | true =>
      obtain ⟨h60, hgood⟩ := hb rfl
      have HGD := Lib.hid hgood
      have hn60 : n ≤ 60 := by rw [← HNS.out]; exact h60
      have HC : Hid (Calls Tryd.prog 5 #[.int .i64 ((N : Int) % 65), .bool dup, .slice a n cap] w2 fun e w' => ∃ (pa : Option Addr) (ca : Nat) (rows : List (List Value)) (T : List Sad) (σ : Que), e = .returned (.slice pa n ca) ∧ w'.ownsRow w2.heap.size 33 4 (.slice pa n ca) n rows.flatten ∧ (∀ r ∈ rows, r.length = 4) ∧ rows.length = n ∧ SaidAt w' w2.heap.size rows T ∧ Runs dup (false, []) S T σ ∧ Below w2.heap.size w2 w') := Lib.hid (by
        have := pqrun_any a0 a1 a2 (N % 65) dup S (.slice a n cap) R w2 (HS.out.below (Nat.le_refl _) HB2.out) (HRW.out.below rfl HB2.out) (HST.out.below HB2.out) (fun s hs => ⟨(HGD.out s hs).1, by have := (HGD.out s hs).2; omega⟩) (by omega) (by omega)
        rw [HNS.out] at this
        exact this)
      have HR2 := Lib.hid (HRW.out.below rfl HB2.out)
      have HS2 := Lib.hid (HST.out.below HB2.out)
      clear hb hgood h60
      go_wp2_with fail
      refine HC.out.mono ?_
      rintro e w3 ⟨pa, ca, rows, T, σe, rfl, hown, hrl, hrn, hsaid, hruns, hb3⟩
      have hnn : ((n : Int) != (n : Int)) = false := by simp
      have HRS : Hid (Rw 4 w3 (.slice pa n ca) rows) := Lib.hid (Rw.of_owns hrl (by decide) hown)
      have HSA := Lib.hid hsaid
      have HRU := Lib.hid hruns
      have hps := HRS.out.some
      have HB3 := Lib.hid (HB2.out.trans (hb3.mono HB2.out.size))
      have HR3 := Lib.hid (HR2.out.below rfl hb3)
      have HS3 := Lib.hid (HS2.out.below hb3)
      clear hown hrl hrn hsaid hruns hb3
      obtain ⟨_, hpc, hpm, hpr⟩ := hps
      go_wp2_with fail
      have hq0 := Blk.new w3 37 #[.slice none 0 0, .bool dup, .bool false]
      have hbq : Below w3.heap.size w3 (w3.alloc (.cells #[.slice none 0 0, .bool dup, .bool false] 37)) := (Below.refl _ _).alloc (Nat.le_refl _) _
      obtain ⟨w4, hw4⟩ : ∃ w4, w3.alloc (.cells #[.slice none 0 0, .bool dup, .bool false] 37) = w4 := ⟨_, rfl⟩
      rw [hw4] at hq0 hbq ⊢
      have hz4 : w4.heap.size = w3.heap.size + 1 := by rw [← hw4]; simp
      obtain ⟨q, hq⟩ : ∃ q, w3.heap.size = q := ⟨_, rfl⟩
      rw [hq] at hq0 hz4 ⊢
      have HQ0 := Lib.hid hq0
      have HZ4 := Lib.hid hz4
      have HQE := Lib.hid hq
      have HB4 := Lib.hid (HB3.out.trans (hbq.mono HB3.out.size))
      have HRS4 := Lib.hid (HRS.out.below rfl hbq)
      have HBQ := Lib.hid hbq
      clear hw4 hq0 hbq hz4 hq hr
      go_loopg [34] n (fun k idx wr => LawLoop n q S T dup σe w4 k idx wr)
      case atStart => exact ⟨0, (false, []), none, 0, rfl, by omega, HQ0.out, by simpa [pits] using Rw.nil 2 w4, (fun h => by cases h), by simpa using HRU.out, by simp, gb_refl _ _⟩
      case round =>
        obtain ⟨i, σ, qa, qc, rfl, hik, hblk, hqrw, hinv, hrun, hsl, hgr⟩ := hrel
        have HK := Lib.hid hblk
        have HQR := Lib.hid hqrw
        have HIN := Lib.hid hinv
        have HRUN := Lib.hid hrun
        have HG := Lib.hid hgr
        have hsz := hgr.size
        obtain ⟨QL, hQL⟩ : ∃ QL, σ.2.length = QL := ⟨_, rfl⟩
        obtain ⟨GO, hGO⟩ : ∃ GO, σ.1 = GO := ⟨_, rfl⟩
        have x0 : wr.cell? ⟨q, 0, none⟩ = some (.slice qa QL qc) := by rw [← hQL]; exact hblk.cell 0 rfl
        have x1 : wr.cell? ⟨q, 1, none⟩ = some (.bool dup) := hblk.cell 1 rfl
        have x2 : wr.cell? ⟨q, 2, none⟩ = some (.bool GO) := by rw [← hGO]; exact hblk.cell 2 rfl
        have f0 := hblk.free 0
        have f1 := hblk.free 1
        have f2 := hblk.free 2
        have HQL := Lib.hid hQL
        have HGO := Lib.hid hGO
        clear hblk hqrw hinv hrun hgr hQL hGO
        by_cases hi : i < n
        · cases gk with
          | zero => omega
          | succ k =>
            have hsa := HR3.out.some
            obtain ⟨b1, o1, rfl⟩ := hsa.2.2.2 (by omega)
            obtain ⟨b2, o2, rfl⟩ := hpr (by omega)
            obtain ⟨op, sn, its, va, vc, hSi, d0, d1, d2, hits, hm9⟩ := step_cells HR3.out HS3.out i hi
            obtain ⟨t, ta, tc, hTi, t0, t1, t2, t3, htr⟩ := said_cells HRS.out HSA.out i hi
            have hqe := HQE.out
            have turn : ∀ {a : Addr} {v : Value}, w3.cell? a = some v → wr.cell? a = some v := fun {a v} h => by
              have h1 := (HBQ.out.cell (World.block_lt_of_cell? w3 _ h)).trans h
              exact HG.out.cell h1 (fun e => by have := World.block_lt_of_cell? w3 _ h; injection e with e; omega)
            replace d0 := turn d0
            replace d1 := turn d1
            replace d2 := turn d2
            replace t0 := turn t0
            replace t1 := turn t1
            replace t2 := turn t2
            replace t3 := turn t3
            have hrs := runs_at HRUN.out hSi hTi
            obtain ⟨σ1, hps, hrest⟩ := hrs
            have hok := HGD.out _ (List.mem_of_getElem? hSi)
            have hnoq := q_noint HK.out ⟨_, _, _, rfl⟩
            have hst3 : ∀ {v : Value} {l : List It}, Rw 2 w3 v (pits l) → Rw 2 wr v (pits l) := fun {v l} h => by
              obtain ⟨a, n, cap, rfl, hn, hc, hm, hr⟩ := h
              refine ⟨a, n, cap, rfl, hn, hc, hm, fun hz => ?_⟩
              obtain ⟨b, off, rfl, hcell⟩ := hr hz
              exact ⟨b, off, rfl, fun i row hi j u hu => turn (hcell i row hi j u hu)⟩
            have hi2 := hst3 hits
            have ht2 := hst3 htr
            obtain ⟨IL, hIL⟩ : ∃ IL, its.length = IL := ⟨_, rfl⟩
            obtain ⟨TL, hTL⟩ : ∃ TL, t.1.length = TL := ⟨_, rfl⟩
            obtain ⟨T1, hT1⟩ : ∃ x, t.2.1 = x := ⟨_, rfl⟩
            obtain ⟨T2, hT2⟩ : ∃ x, t.2.2.1 = x := ⟨_, rfl⟩
            obtain ⟨T3, hT3⟩ : ∃ x, t.2.2.2 = x := ⟨_, rfl⟩
            have hq2 := HQR.out
            have hC : ∀ wx, Below wr.heap.size wr wx → Calls Tryd.prog 10 #[.agg #[.slice qa QL qc, .bool dup, .bool GO], .agg #[.int .i64 op, .int .i64 sn, .slice va IL vc], .agg #[.slice ta TL tc, .int .i64 T1, .bool T2, .int .i64 T3]] wx fun e w' =>
                ∃ qv', e = .returned (.tuple #[.agg #[qv', .bool dup, .bool σ1.1], .bool true]) ∧ Rw 2 w' qv' (pits σ1.2) ∧ (σ1.1 = true → σ1.2 = []) ∧ Below wx.heap.size wx w' := fun wx hb => by
              have := pqspec_any σ σ1 dup (op, sn, its) t (.slice qa σ.2.length qc) (.slice va its.length vc) (.slice ta t.1.length tc) wx hps hok.1 HIN.out (hq2.below rfl hb) (hi2.below rfl hb) (ht2.below rfl hb) (by have h1 := hok.2; have h2 : its.length ≤ 30 := h1; show σ.2.length + its.length ≤ 100000; omega)
              rw [HQL.out, HGO.out, hT1, hT2, hT3] at this
              simp only [hIL, hTL] at this
              exact this
            have hl1 := pstep_len hps
            have h30 : its.length ≤ 30 := hok.2
            have HL1 : Hid (σ1.2.length ≤ 100 * (i + 1)) := Lib.hid (by have h2 : σ1.2.length ≤ σ.2.length + its.length := hl1; omega)
            rw [hIL] at d2
            rw [hTL] at t0
            rw [hT1] at t1
            rw [hT2] at t2
            rw [hT3] at t3
            have HC2 := Lib.hid hC
            have HREST := Lib.hid hrest
            have HNOQ := Lib.hid hnoq
            have z0 := HK.out
            have hbz : Below wr.heap.size wr (wr.alloc (.cells #[.int .i64 op, .int .i64 sn, .slice va IL vc] 24)) := (Below.refl _ _).alloc (Nat.le_refl _) _
            have HBZ := Lib.hid hbz
            have ztn : ∀ {a : Addr} {v : Value}, wr.cell? a = some v → (wr.alloc (.cells #[.int .i64 op, .int .i64 sn, .slice va IL vc] 24)).cell? a = some v := fun {a v} h => alloc_keep h _
            have X0 := Lib.hid (ztn x0)
            have X1 := Lib.hid (ztn x1)
            have X2 := Lib.hid (ztn x2)
            have Y0 := Lib.hid (ztn t0)
            have Y1 := Lib.hid (ztn t1)
            have Y2 := Lib.hid (ztn t2)
            have Y3 := Lib.hid (ztn t3)
            clear hsa hSi hTi hits hm9 htr hps hrest hok hnoq hi2 ht2 hIL hTL hT1 hT2 hT3 hq2 hC hl1 h30 z0 hbz turn hst3 ztn
            have hzb := Blk.new wr 24 #[.int .i64 op, .int .i64 sn, .slice va IL vc]
            have x0v := X0.out
            have x1v := X1.out
            have x2v := X2.out
            have y0v := Y0.out
            have y1v := Y1.out
            have y2v := Y2.out
            have y3v := Y3.out
            have Z0 := Lib.hid (show (wr.alloc (.cells #[.int .i64 op, .int .i64 sn, .slice va IL vc] 24)).cell? ⟨wr.heap.size, 0, none⟩ = some (.int .i64 op) from hzb.cell 0 rfl)
            have z0v := Z0.out
            have Z1 := Lib.hid (show (wr.alloc (.cells #[.int .i64 op, .int .i64 sn, .slice va IL vc] 24)).cell? ⟨wr.heap.size, 1, none⟩ = some (.int .i64 sn) from hzb.cell 1 rfl)
            have z1v := Z1.out
            have Z2 := Lib.hid (show (wr.alloc (.cells #[.int .i64 op, .int .i64 sn, .slice va IL vc] 24)).cell? ⟨wr.heap.size, 2, none⟩ = some (.slice va IL vc) from hzb.cell 2 rfl)
            have z2v := Z2.out
            have HKQ := HK
            have HT11 : Hid (Blk ((wr.alloc (.cells #[.int .i64 op, .int .i64 sn, .slice va IL vc] 24)).alloc (.cells #[.slice none 0 0, .bool false, .bool false] 37)) (wr.heap.size + 1) 37 #[.slice none 0 0, .bool false, .bool false]) := Lib.hid (by have := Blk.new (wr.alloc (.cells #[.int .i64 op, .int .i64 sn, .slice va IL vc] 24)) 37 #[.slice none 0 0, .bool false, .bool false]; simpa using this)
            have hqlt : q < wr.heap.size := HK.out.lt
            have hb2lt : b2 < wr.heap.size := World.block_lt_of_cell? wr _ t0
            clear hzb
            go_wp2_with fail
            go_region_held3 (fun w' => w'.cell? ⟨q, 0, none⟩ = some (.slice qa QL qc) ∧ w'.cell? ⟨q, 1, none⟩ = some (.bool dup) ∧ w'.cell? ⟨q, 2, none⟩ = some (.bool GO) ∧ w'.cell? ⟨b2, o2 + i * 4, none⟩ = some (.slice ta TL tc) ∧ w'.cell? ⟨b2, o2 + i * 4 + 1, none⟩ = some (.int .i64 T1) ∧ w'.cell? ⟨b2, o2 + i * 4 + 2, none⟩ = some (.bool T2) ∧ w'.cell? ⟨b2, o2 + i * 4 + 3, none⟩ = some (.int .i64 T3) ∧ w'.cell? ⟨wr.heap.size, 0, none⟩ = some (.int .i64 op) ∧ w'.cell? ⟨wr.heap.size, 1, none⟩ = some (.int .i64 sn) ∧ w'.cell? ⟨wr.heap.size, 2, none⟩ = some (.slice va IL vc))
              ((first | exact ⟨by with_reducible assumption, by with_reducible assumption, by with_reducible assumption, by with_reducible assumption, by with_reducible assumption, by with_reducible assumption, by with_reducible assumption, by with_reducible assumption, by with_reducible assumption, by with_reducible assumption⟩ | (refine ⟨?_, ?_, ?_, ?_, ?_, ?_, ?_, ?_, ?_, ?_⟩ <;> (repeat (first | with_reducible assumption | with_reducible refine alloc_keep ?_ _ | with_reducible refine drew_keep ?_ | (with_reducible refine set_keep ?_ (by simp only []; omega)))))))
              ((first
                | (go_at_call 10; (with_reducible refine Calls.mono (HC2.out _ ?_) ?_); (first | exact HBZ.out | exact HBZ.out.drew | exact HBZ.out.drew.drew); rintro e w5 ⟨qv', rfl, hq5, hi5, hb5⟩; obtain ⟨qa5, qc5, rfl⟩ := rw_out hq5; have HQ5 := Lib.hid hq5; have HI5 := Lib.hid hi5; have hb6 : Below (wr.alloc (.cells #[.int .i64 op, .int .i64 sn, .slice va IL vc] 24)).heap.size (wr.alloc (.cells #[.int .i64 op, .int .i64 sn, .slice va IL vc] 24)) w5 := Below.trans (by (repeat (first | with_reducible exact Below.refl _ _ | with_reducible refine Below.drew ?_))) hb5; have HB5 := Lib.hid (Below.trans HBZ.out (hb6.mono (by simp <;> omega))); have x05 : w5.cell? ⟨q, 0, none⟩ = some (.slice qa QL qc) := (hb6.cell (World.block_lt_of_cell? _ _ X0.out)).trans X0.out; have x15 : w5.cell? ⟨q, 1, none⟩ = some (.bool dup) := (hb6.cell (World.block_lt_of_cell? _ _ X1.out)).trans X1.out; have x25 : w5.cell? ⟨q, 2, none⟩ = some (.bool GO) := (hb6.cell (World.block_lt_of_cell? _ _ X2.out)).trans X2.out; have y05 : w5.cell? ⟨b2, o2 + i * 4, none⟩ = some (.slice ta TL tc) := (hb6.cell (World.block_lt_of_cell? _ _ Y0.out)).trans Y0.out; have y15 : w5.cell? ⟨b2, o2 + i * 4 + 1, none⟩ = some (.int .i64 T1) := (hb6.cell (World.block_lt_of_cell? _ _ Y1.out)).trans Y1.out; have y25 : w5.cell? ⟨b2, o2 + i * 4 + 2, none⟩ = some (.bool T2) := (hb6.cell (World.block_lt_of_cell? _ _ Y2.out)).trans Y2.out; have y35 : w5.cell? ⟨b2, o2 + i * 4 + 3, none⟩ = some (.int .i64 T3) := (hb6.cell (World.block_lt_of_cell? _ _ Y3.out)).trans Y3.out; have z05 : w5.cell? ⟨wr.heap.size, 0, none⟩ = some (.int .i64 op) := (hb6.cell (World.block_lt_of_cell? _ _ Z0.out)).trans Z0.out; have z15 : w5.cell? ⟨wr.heap.size, 1, none⟩ = some (.int .i64 sn) := (hb6.cell (World.block_lt_of_cell? _ _ Z1.out)).trans Z1.out; have z25 : w5.cell? ⟨wr.heap.size, 2, none⟩ = some (.slice va IL vc) := (hb6.cell (World.block_lt_of_cell? _ _ Z2.out)).trans Z2.out; have hkq5 := (HKQ.out.alloc _).below hb6 (HKQ.out.alloc _).lt; have HK5 := Lib.hid hkq5; have fq0 := hkq5.free 0; have fq1 := hkq5.free 1; have fq2 := hkq5.free 2; clear hq5 hi5 hb5 hb6 hkq5)
                | (go_at_call 10; (with_reducible refine Calls.mono (HC2.out _ ?_) ?_); (first | exact (HBZ.out.alloc (by simp) _) | exact (HBZ.out.alloc (by simp) _).drew | exact (HBZ.out.alloc (by simp) _).drew.drew); rintro e w5 ⟨qv', rfl, hq5, hi5, hb5⟩; obtain ⟨qa5, qc5, rfl⟩ := rw_out hq5; have HQ5 := Lib.hid hq5; have HI5 := Lib.hid hi5; have hb6 : Below ((wr.alloc (.cells #[.int .i64 op, .int .i64 sn, .slice va IL vc] 24)).alloc (.cells #[.slice none 0 0, .bool false, .bool false] 37)).heap.size ((wr.alloc (.cells #[.int .i64 op, .int .i64 sn, .slice va IL vc] 24)).alloc (.cells #[.slice none 0 0, .bool false, .bool false] 37)) w5 := Below.trans (by (repeat (first | with_reducible exact Below.refl _ _ | with_reducible refine Below.drew ?_))) hb5; have HB5 := Lib.hid (Below.trans (HBZ.out.alloc (by simp) _) (hb6.mono (by simp <;> omega))); have x05 : w5.cell? ⟨q, 0, none⟩ = some (.slice qa QL qc) := (hb6.cell (World.block_lt_of_cell? _ _ (alloc_keep X0.out (.cells #[.slice none 0 0, .bool false, .bool false] 37)))).trans (alloc_keep X0.out (.cells #[.slice none 0 0, .bool false, .bool false] 37)); have x15 : w5.cell? ⟨q, 1, none⟩ = some (.bool dup) := (hb6.cell (World.block_lt_of_cell? _ _ (alloc_keep X1.out (.cells #[.slice none 0 0, .bool false, .bool false] 37)))).trans (alloc_keep X1.out (.cells #[.slice none 0 0, .bool false, .bool false] 37)); have x25 : w5.cell? ⟨q, 2, none⟩ = some (.bool GO) := (hb6.cell (World.block_lt_of_cell? _ _ (alloc_keep X2.out (.cells #[.slice none 0 0, .bool false, .bool false] 37)))).trans (alloc_keep X2.out (.cells #[.slice none 0 0, .bool false, .bool false] 37)); have y05 : w5.cell? ⟨b2, o2 + i * 4, none⟩ = some (.slice ta TL tc) := (hb6.cell (World.block_lt_of_cell? _ _ (alloc_keep Y0.out (.cells #[.slice none 0 0, .bool false, .bool false] 37)))).trans (alloc_keep Y0.out (.cells #[.slice none 0 0, .bool false, .bool false] 37)); have y15 : w5.cell? ⟨b2, o2 + i * 4 + 1, none⟩ = some (.int .i64 T1) := (hb6.cell (World.block_lt_of_cell? _ _ (alloc_keep Y1.out (.cells #[.slice none 0 0, .bool false, .bool false] 37)))).trans (alloc_keep Y1.out (.cells #[.slice none 0 0, .bool false, .bool false] 37)); have y25 : w5.cell? ⟨b2, o2 + i * 4 + 2, none⟩ = some (.bool T2) := (hb6.cell (World.block_lt_of_cell? _ _ (alloc_keep Y2.out (.cells #[.slice none 0 0, .bool false, .bool false] 37)))).trans (alloc_keep Y2.out (.cells #[.slice none 0 0, .bool false, .bool false] 37)); have y35 : w5.cell? ⟨b2, o2 + i * 4 + 3, none⟩ = some (.int .i64 T3) := (hb6.cell (World.block_lt_of_cell? _ _ (alloc_keep Y3.out (.cells #[.slice none 0 0, .bool false, .bool false] 37)))).trans (alloc_keep Y3.out (.cells #[.slice none 0 0, .bool false, .bool false] 37)); have z05 : w5.cell? ⟨wr.heap.size, 0, none⟩ = some (.int .i64 op) := (hb6.cell (World.block_lt_of_cell? _ _ (alloc_keep Z0.out (.cells #[.slice none 0 0, .bool false, .bool false] 37)))).trans (alloc_keep Z0.out (.cells #[.slice none 0 0, .bool false, .bool false] 37)); have z15 : w5.cell? ⟨wr.heap.size, 1, none⟩ = some (.int .i64 sn) := (hb6.cell (World.block_lt_of_cell? _ _ (alloc_keep Z1.out (.cells #[.slice none 0 0, .bool false, .bool false] 37)))).trans (alloc_keep Z1.out (.cells #[.slice none 0 0, .bool false, .bool false] 37)); have z25 : w5.cell? ⟨wr.heap.size, 2, none⟩ = some (.slice va IL vc) := (hb6.cell (World.block_lt_of_cell? _ _ (alloc_keep Z2.out (.cells #[.slice none 0 0, .bool false, .bool false] 37)))).trans (alloc_keep Z2.out (.cells #[.slice none 0 0, .bool false, .bool false] 37)); have hkq5 := ((HKQ.out.alloc _).alloc _).below hb6 ((HKQ.out.alloc _).alloc _).lt; have HK5 := Lib.hid hkq5; have fq0 := hkq5.free 0; have fq1 := hkq5.free 1; have fq2 := hkq5.free 2; have ht11 := (HT11.out).below hb6 HT11.out.lt; have m0 : w5.cell? ⟨wr.heap.size + 1, 0, none⟩ = some (.slice none 0 0) := ht11.cell 0 rfl; have m1 : w5.cell? ⟨wr.heap.size + 1, 1, none⟩ = some (.bool false) := ht11.cell 1 rfl; have m2 : w5.cell? ⟨wr.heap.size + 1, 2, none⟩ = some (.bool false) := ht11.cell 2 rfl; have g0 := ht11.free 0; have g1 := ht11.free 1; have g2 := ht11.free 2; have HT5 := Lib.hid ht11; clear ht11; clear hq5 hi5 hb5 hb6 hkq5)))
            any_goals
              fail_if_success (have tok := HT5)
              have ka := HK5.out.alloc (.cells #[.slice qa5 σ1.2.length qc5, .bool dup, .bool σ1.1] 37)
              have ka0 := ka.cell 0 rfl
              have ka1 := ka.cell 1 rfl
              have ka2 := ka.cell 2 rfl
              have fa0 := ka.free 0
              have fa1 := ka.free 1
              have fa2 := ka.free 2
              have KX := Lib.hid ka
              clear ka
              go_wp2_with fail
              go_roundg k
              case measure => omega
              case rel =>
                have hg5 := gb_below HG.out HB5.out
                refine ⟨i + 1, σ1, qa5, qc5, by go_num, by omega, st3_blk KX.out rfl _ _ _, ?_, HI5.out, HREST.out, HL1.out, ?_⟩
                · exact rw_turn (HQ5.out.below rfl ((Below.refl _ _).alloc (Nat.le_refl _) _)) KX.out (fun i x h => by match i, h with | 0, h => simp at h | 1, h => simp at h | 2, h => simp at h | i + 3, h => simp at h) KX.out (fun i x h => by match i, h with | 0, h => simp at h | 1, h => simp at h | 2, h => simp at h | i + 3, h => simp at h) _ (fun j h1 _ => ((Below.heap_setCell _ _ _ j h1).trans (Below.heap_setCell _ _ _ j h1)).trans (Below.heap_setCell _ _ _ j h1))
                · exact gb_store (gb_store (gb_store (gb_alloc hg5 _) (.inl rfl) _) (.inl rfl) _) (.inl rfl) _
            all_goals
              have kb := ((HK5.out.other (a := ⟨wr.heap.size + 1, 0, none⟩) (by simp only []; omega) (.slice qa5 σ1.2.length qc5)).other (a := ⟨wr.heap.size + 1, 1, none⟩) (by simp only []; omega) (.bool dup)).other (a := ⟨wr.heap.size + 1, 2, none⟩) (by simp only []; omega) (.bool σ1.1)
              have kb0 := kb.cell 0 rfl
              have kb1 := kb.cell 1 rfl
              have kb2 := kb.cell 2 rfl
              have fb0 := kb.free 0
              have fb1 := kb.free 1
              have fb2 := kb.free 2
              have KX := Lib.hid kb
              clear kb
              go_wp2_with fail
              go_roundg k
              case measure => omega
              case rel =>
                have hg5 := gb_below HG.out HB5.out
                refine ⟨i + 1, σ1, qa5, qc5, by go_num, by omega, st3_blk KX.out rfl _ _ _, ?_, HI5.out, HREST.out, HL1.out, ?_⟩
                · exact rw_turn HQ5.out HK5.out (fun i x h => by match i, h with | 0, h => simp at h | 1, h => simp at h | 2, h => simp at h | i + 3, h => simp at h) HT5.out (fun i x h => by match i, h with | 0, h => simp at h | 1, h => simp at h | 2, h => simp at h | i + 3, h => simp at h) _ (fun j h1 h2 => (((((Below.heap_setCell _ _ _ j h1).trans (Below.heap_setCell _ _ _ j h1)).trans (Below.heap_setCell _ _ _ j h1)).trans (Below.heap_setCell _ _ _ j h2)).trans (Below.heap_setCell _ _ _ j h2)).trans (Below.heap_setCell _ _ _ j h2))
                · exact gb_store (gb_store (gb_store (gb_store (gb_store (gb_store hg5 (.inr (by simp only []; omega)) _) (.inr (by simp only []; omega)) _) (.inr (by simp only []; omega)) _) (.inl rfl) _) (.inl rfl) _) (.inl rfl) _
        · obtain ⟨I, hI⟩ : ∃ I, I = n := ⟨_, rfl⟩
          obtain rfl : i = I := by omega
          subst hI
          have hdd : decide ((i : Int) < (i : Int)) = false := by simp
          go_wp2_with fail
          go_ret
          exact ⟨rfl, HB4.out.trans ⟨HG.out.os, HG.out.tape, HG.out.output, HG.out.size, fun j hj => HG.out.block j (Nat.lt_of_lt_of_le hj HB4.out.size) (fun e => by have h1 := HQE.out; have h2 := HB3.out.size; injection e with e; omega)⟩⟩
end Go.Proofs.YtepjailijekepaaDoor
