/- The walk of spec.AVStep. -/
import Derived.Test.YtnfkjcopeljknaaAvStepH
namespace Go.Proofs.Ytnfkjcopeljknaa
set_option linter.unusedVariables false
open Go.RowKit Avm

set_option maxRecDepth 100000 in
set_option maxHeartbeats 4000000 in
theorem avstep_any' (vl : Value) (l es : Lst) (op frm : Nat) (ve : Value) (w : World) (hv : Rw 2 w vl (aes l)) (he : Rw 2 w ve (aes es)) (hn : es.length ≤ 100) (hL : l.length ≤ 50000) (hop : 1 ≤ op) (hop3 : op ≤ 3) :
    Calls Try.prog 18 #[vl, .agg #[.int .i64 (op : Int), .int .i64 (frm : Int), ve]] w fun e w' => ∃ v' q1 c1 q2 c2, e = .returned (.tuple #[v', .agg #[.int .i64 ((stepL op l es).length : Int), .slice q1 es.length c1, .slice q2 es.length c2]]) ∧ Rw 2 w' v' (aes (stepL op l es)) ∧ (op ≠ 3 → 0 < es.length → w'.ownsRow w.heap.size 25 2 v' (stepL op l es).length (aes (stepL op l es)).flatten) ∧
      w'.ownsRow w.heap.size 25 2 (.slice q1 es.length c1) es.length (aes ((osK op l es es.length).map oget)).flatten ∧ w'.ownsRow w.heap.size 4 1 (.slice q2 es.length c2) es.length (bvs ((osK op l es es.length).map Option.isSome)) ∧ Below w.heap.size w w' := by
  have HV := Lib.hid hv
  obtain ⟨av, nv, cv, rfl, hlv, hcv, hmv, hrv⟩ := hv
  obtain ⟨ae, n, ce, rfl, hle, hce, hme, hre⟩ := he
  rw [aes_len] at hlv hle
  have HRE := Lib.hid hre
  have HN := Lib.hid hle
  rw [hle] at hn ⊢
  clear hlv hcv hmv hrv hle hce hme hre
  have kb := Blk.new w 32 #[.int .i64 (op : Int), .int .i64 (frm : Int), .slice ae n ce]
  obtain ⟨bx, hbx⟩ : ∃ bx : Array Value, bx = #[.int .i64 (op : Int), .int .i64 (frm : Int), .slice ae n ce] := ⟨_, rfl⟩
  have kr := Blk.new (w.alloc (.cells #[.int .i64 (op : Int), .int .i64 (frm : Int), .slice ae n ce] 32)) 36 #[.int .i64 0, .slice none 0 0, .slice none 0 0]
  have kx := Blk.new ((w.alloc (.cells #[.int .i64 (op : Int), .int .i64 (frm : Int), .slice ae n ce] 32)).alloc (.cells #[.int .i64 0, .slice none 0 0, .slice none 0 0] 36)) 36 #[.int .i64 0, .slice none 0 0, .slice none 0 0]
  have kb := (kb.alloc (.cells #[.int .i64 0, .slice none 0 0, .slice none 0 0] 36)).alloc (.cells #[.int .i64 0, .slice none 0 0, .slice none 0 0] 36)
  have kr := kr.alloc (.cells #[.int .i64 0, .slice none 0 0, .slice none 0 0] 36)
  rw [World.size_alloc] at kr
  rw [World.size_alloc, World.size_alloc] at kx
  have hal : Below w.heap.size w (((w.alloc (.cells #[.int .i64 (op : Int), .int .i64 (frm : Int), .slice ae n ce] 32)).alloc (.cells #[.int .i64 0, .slice none 0 0, .slice none 0 0] 36)).alloc (.cells #[.int .i64 0, .slice none 0 0, .slice none 0 0] 36)) :=
    (((Below.refl _ _).alloc (Nat.le_refl _) _).alloc (by simp) _).alloc (by simp; omega) _
  have e2 := kb.cell 2 rfl
  have HKB := Lib.hid kb
  have HKR := Lib.hid kr
  have HKX := Lib.hid kx
  have HAL := Lib.hid hal
  clear kb kr kx hal
  clear kb kr
  go_enter Try.func18, Try.ntmps18
  go_wp2_with fail
  obtain ⟨w1, hw1⟩ : ∃ w1, w1 = (((w.alloc (.cells #[.int .i64 (op : Int), .int .i64 (frm : Int), .slice ae n ce] 32)).alloc (.cells #[.int .i64 0, .slice none 0 0, .slice none 0 0] 36)).alloc (.cells #[.int .i64 0, .slice none 0 0, .slice none 0 0] 36)) := ⟨_, rfl⟩
  obtain ⟨G, hG⟩ : ∃ G, w.heap.size = G := ⟨_, rfl⟩
  obtain ⟨R, hR⟩ : ∃ R, G + 1 = R := ⟨_, rfl⟩
  obtain ⟨X, hX⟩ : ∃ X, G + 1 + 1 = X := ⟨_, rfl⟩
  rw [← hw1, hG] at HKB HAL
  rw [← hw1, hG, hR] at HKR
  rw [← hw1, hG, hX] at HKX
  rw [← hw1, hG, hX, hR]
  rw [← hbx] at HKB
  have HBX := Lib.hid hbx
  have HG := Lib.hid hG
  have gRX : R ≠ X := by omega
  have gGX : G ≠ X := by omega
  have gGX' : G ≤ X := by omega
  have gGR : G ≠ R := by omega
  have gGR' : G ≤ R := by omega
  clear hw1 hG hR hX hbx e2
  go_loopg [0, 8, 9, 10, 14] n (fun k s0 s8 s9 s10 idx wr => StepLoop op (.slice av nv cv) l es bx G R X n w k s0 idx wr)
  case atStart => exact ⟨0, none, 0, none, 0, _, _, _, rfl, rfl, by omega, HKX.out, World.ownsRow_nil _ _ _ _, World.ownsRow_nil _ _ _ _, HKR.out, HKB.out, .inl ⟨.inr rfl, rfl⟩, HAL.out⟩
  case round =>
    clear HKX HKR HKB HAL
    obtain ⟨j, q1, c1, q2, c2, a0, n0, c0, rfl, rfl, hjk, hx, ho1, ho2, hr, hb, hl, hbel⟩ := hrel
    have hgs : G ≤ wr.heap.size := by have := hbel.size; have := HG.out; omega
    by_cases hj : j < n
    · obtain ⟨b, off, rfl, hcell⟩ := HRE.out (by omega)
      have hjl : j < es.length := by rw [HN.out]; exact hj
      have ha := aes_at es j hjl
      have e0 := hcell j _ ha 0 _ rfl
      have e1 := hcell j _ ha 1 _ rfl
      rw [← hbel.cell (by rw [← HG.out]; exact World.block_lt_of_cell? w _ e0)] at e0
      rw [← hbel.cell (by rw [← HG.out]; exact World.block_lt_of_cell? w _ e1)] at e1
      have hrw0 := hl.rw HV.out HG.out.symm hbel
      have hls := stepL_succ op l es j hjl
      have hos := osK_succ op l es j
      have hlen : (stepL op l (es.take j)).length ≤ 60000 := by
        have h1 := stepL_len op (es.take j) l
        rw [List.length_take] at h1
        omega
      obtain ⟨k0, hk0⟩ : ∃ x, (es.getD j (0, 0)).1 = x := ⟨_, rfl⟩
      obtain ⟨v0, hv0⟩ : ∃ x, (es.getD j (0, 0)).2 = x := ⟨_, rfl⟩
      have hp : es.getD j (0, 0) = (k0, v0) := by rw [← hk0, ← hv0]
      rw [hk0] at e0
      rw [hv0] at e1
      rw [hp] at hls
      rw [show keyAt es j = k0 from hk0] at hos
      have HL0 := Lib.hid hl
      obtain ⟨Lj, hLj⟩ : ∃ Lj, stepL op l (es.take j) = Lj := ⟨_, rfl⟩
      rw [hLj] at hrw0 hls hos hlen
      have HLJ := Lib.hid hLj
      have HLS := Lib.hid hls
      have HOS := Lib.hid hos
      have e0' : wr.cell? ⟨b, off + j * 2, none⟩ = some (.int .i64 k0) := by simpa using e0
      have e1' : wr.cell? ⟨b, off + j * 2 + 1, none⟩ = some (.int .i64 v0) := by rw [Nat.add_assoc]; exact e1
      have i1 : (j : Int) < (n : Int) := by omega
      have i2 : (0 : Int) ≤ (j : Int) := by omega
      -- the round's own copy of the entry
      have hal : Below wr.heap.size wr (wr.alloc (.cells #[.int .i64 k0, .int .i64 v0] 25)) := (Below.refl _ _).alloc (Nat.le_refl _) _
      have kE := Blk.new wr 25 #[.int .i64 k0, .int .i64 v0]
      have hxa := hx.alloc (.cells #[.int .i64 k0, .int .i64 v0] 25)
      have hra := hr.alloc (.cells #[.int .i64 k0, .int .i64 v0] 25)
      have hba := hb.alloc (.cells #[.int .i64 k0, .int .i64 v0] 25)
      have h1a := ho1.alloc (.cells #[.int .i64 k0, .int .i64 v0] 25)
      have h2a := ho2.alloc (.cells #[.int .i64 k0, .int .i64 v0] 25)
      have hla := hl.fr (Fr.of0 (Fr.refl0 [] wr) (Fr.of_below [] hal) (fun _ h => by cases h)) (fun _ _ _ _ _ _ h => by cases h)
      have hwa' := hrw0.below rfl hal
      have hbe := hbel.trans (hal.mono hgs)
      have h1E := fun k hk => (own_lt ho1 k hk).1
      have h2E := fun k hk => (own_lt ho2 k hk).1
      have hXlt := hx.lt
      obtain ⟨E, hE⟩ : ∃ E, wr.heap.size = E := ⟨_, rfl⟩
      rw [hE] at kE h1E h2E hXlt
      have hEG : G ≤ E := by omega
      have hEX : E ≠ X := by omega
      obtain ⟨wa, hwa⟩ : ∃ wa, wa = wr.alloc (.cells #[.int .i64 k0, .int .i64 v0] 25) := ⟨_, rfl⟩
      rw [← hwa] at kE hxa hra hba h1a h2a hla hwa' hbe
      have HE := Lib.hid hE
      have HWA := Lib.hid hwa
      have HX := Lib.hid hxa
      have HR := Lib.hid hra
      have HB := Lib.hid hba
      have H1 := Lib.hid h1a
      have H2 := Lib.hid h2a
      have HL := Lib.hid hla
      have HRW := Lib.hid hwa'
      have HBE := Lib.hid hbe
      have KE := Lib.hid kE
      have H1E := Lib.hid h1E
      have H2E := Lib.hid h2E
      have hfind := avfind_any (.slice a0 n0 c0) Lj k0 wa hwa' (by omega)
      obtain ⟨kk, hkk⟩ : ∃ x, (oget (kvO k0 (look Lj k0))).1 = x := ⟨_, rfl⟩
      obtain ⟨vv, hvv⟩ : ∃ x, (oget (kvO k0 (look Lj k0))).2 = x := ⟨_, rfl⟩
      obtain ⟨bb, hbb⟩ : ∃ x, (kvO k0 (look Lj k0)).isSome = x := ⟨_, rfl⟩
      rw [hkk, hvv, hbb] at hfind
      have s1 : (aes ((osK op l es (j + 1)).map oget)).flatten = (aes ((osK op l es j).map oget)).flatten ++ [[Value.int .i64 kk, .int .i64 vv]].flatten := by
        rw [hos, List.map_append, aes, List.map_append, List.flatten_append]
        simp [aes, hkk, hvv]
      have s2 : bvs ((osK op l es (j + 1)).map Option.isSome) = bvs ((osK op l es j).map Option.isSome) ++ [Value.bool bb] := by
        rw [hos, List.map_append, bvs, List.map_append]
        simp [bvs, hbb]
      have S1 := Lib.hid s1
      have S2 := Lib.hid s2
      have HF := Lib.hid hfind
      clear hcell hjl ha e0 e1 hk0 hv0 hp hls hos hLj hrw0 hl hx ho1 ho2 hr hb hbel hal kE hxa hra hba h1a h2a hla hwa' hbe h1E h2E hE hwa hkk hvv hbb s1 s2 hfind HL0 hXlt
      cases gk with
      | zero => omega
      | succ k =>
        go_wp2_with fail
        rw [← HWA.out, HE.out]
        refine HF.out.mono ?_
        rintro e wb ⟨rfl, hfb⟩
        have hfw : Below wa.heap.size wa (wb.alloc (.cells #[.int .i64 kk, .int .i64 vv] 25)) := hfb.alloc hfb.size _
        have kN := Blk.new wb 25 #[.int .i64 kk, .int .i64 vv]
        have hxc := HX.out.next hfw
        have hrc := HR.out.next hfw
        have hbc := HB.out.next hfw
        have kec := KE.out.next hfw
        have h1c := (Fr.of_below [] hfw).own H1.out (fun _ _ h => by cases h)
        have h2c := (Fr.of_below [] hfw).own H2.out (fun _ _ h => by cases h)
        have hlc := HL.out.fr (Fr.of0 (Fr.refl0 [] wa) (Fr.of_below [] hfw) (fun _ h => by cases h)) (fun _ _ _ _ _ _ h => by cases h)
        have hbec : Below G w (wb.alloc (.cells #[.int .i64 kk, .int .i64 vv] 25)) := HBE.out.trans (hfw.mono (by have := HBE.out.size; have := HG.out; omega))
        have hrwc := HRW.out.below rfl hfw
        have h1N := fun k hk => (own_lt H1.out k hk).1
        have h2N := fun k hk => (own_lt H2.out k hk).1
        have hEl := KE.out.lt
        have hXl := HX.out.lt
        have hwab := hfb.size
        obtain ⟨N, hN⟩ : ∃ N, wb.heap.size = N := ⟨_, rfl⟩
        rw [hN] at kN hwab
        obtain ⟨wd, hwc⟩ : ∃ wd, wd = wb.alloc (.cells #[.int .i64 kk, .int .i64 vv] 25) := ⟨_, rfl⟩
        rw [← hwc] at kN hxc hrc hbc kec h1c h2c hlc hbec hrwc
        have n1X : (Value.slice q1 j c1).ownBlock ≠ some X := row_blk h1c hxc (by decide)
        have n1R : (Value.slice q1 j c1).ownBlock ≠ some R := row_blk h1c hrc (by decide)
        have n1G : (Value.slice q1 j c1).ownBlock ≠ some G := row_blk h1c hbc (by decide)
        have n1E : (Value.slice q1 j c1).ownBlock ≠ some E := fun e => by have := H1E.out E (mem_obl.2 e); omega
        have n1N : (Value.slice q1 j c1).ownBlock ≠ some N := fun e => by have := h1N N (mem_obl.2 e); omega
        have n2X : (Value.slice q2 j c2).ownBlock ≠ some X := row_blk h2c hxc (by decide)
        have n2R : (Value.slice q2 j c2).ownBlock ≠ some R := row_blk h2c hrc (by decide)
        have n2G : (Value.slice q2 j c2).ownBlock ≠ some G := row_blk h2c hbc (by decide)
        have n2E : (Value.slice q2 j c2).ownBlock ≠ some E := row_blk h2c kec (by decide)
        have n2N : (Value.slice q2 j c2).ownBlock ≠ some N := row_blk h2c kN (by decide)
        have d12 := row_row h1c h2c (by decide)
        have d21 := row_row h2c h1c (by decide)
        obtain ⟨F, hF⟩ : ∃ F : List Nat, ∀ k, k ∈ F ↔ ((Value.slice q1 j c1).ownBlock = some k ∨ (Value.slice q2 j c2).ownBlock = some k) := ⟨obl (.slice q1 j c1) ++ obl (.slice q2 j c2), fun k => by rw [List.mem_append, mem_obl, mem_obl]⟩
        have hFG : ∀ k ∈ F, G ≤ k := fun k hk => by
          rcases (hF k).1 hk with h | h
          · exact (own_lt h1c k (mem_obl.2 h)).2
          · exact (own_lt h2c k (mem_obl.2 h)).2
        have hFX : X ∉ F := fun h => by
          rcases (hF X).1 h with h | h
          · exact n1X h
          · exact n2X h
        have hFN : N ∉ F := fun h => by
          rcases (hF N).1 h with h | h
          · exact n1N h
          · exact n2N h
        have hF1 : ∀ x ∈ obl (.slice q1 j c1), x ∈ F := fun x hx => (hF x).2 (.inl (mem_obl.1 hx))
        have hF2 : ∀ x ∈ obl (.slice q2 j c2), x ∈ F := fun x hx => (hF x).2 (.inr (mem_obl.1 hx))
        have hsep : ∀ n xs, wd.ownsRow G 25 2 (.slice a0 n0 c0) n xs → ∀ k ∈ obl (.slice a0 n0 c0), (Value.slice q2 j c2).ownBlock ≠ some k := fun n xs ho k hk e => row_row ho h2c (by decide) k hk (mem_obl.2 e)
        have HWC := Lib.hid hwc
        have HNW := Lib.hid hN
        have hsc : G ≤ wd.heap.size := by have := hbec.size; have := HG.out; omega
        have x1 := hxc.cell 1 rfl
        have x2 := hxc.cell 2 rfl
        have f1 := hxc.free 1
        have f2 := hxc.free 2
        have e0 := kN.cell 0 rfl
        have e1 := kN.cell 1 rfl
        have hXc := hxc.lt
        have hNc := kN.lt
        have HXC := Lib.hid hxc
        have HRC := Lib.hid hrc
        have HBC := Lib.hid hbc
        have KEC := Lib.hid kec
        have KNC := Lib.hid kN
        have H1C := Lib.hid h1c
        have H2C := Lib.hid h2c
        have HLC := Lib.hid hlc
        have HBEC := Lib.hid hbec
        have HDS := Lib.hid (And.intro n1X (And.intro n2X (And.intro n1R (And.intro n2R (And.intro n1G (And.intro n2G (And.intro n1E n2E)))))))
        have D12 := Lib.hid d12
        have D21 := Lib.hid d21
        have HFI := Lib.hid hF
        have HFG := Lib.hid hFG
        have HFX := Lib.hid hFX
        have HFN := Lib.hid hFN
        have HF1 := Lib.hid hF1
        have HF2 := Lib.hid hF2
        have HSEP := Lib.hid hsep
        have HMX := Lib.hid (show j + [[Value.int .i64 kk, Value.int .i64 vv]].length ≤ maxLen by simp; unfold maxLen; omega)
        have HMY := Lib.hid (show (j + [[Value.int .i64 kk, Value.int .i64 vv]].length) * 16 ≤ 140737488355328 by simp; omega)
        have HNX := Lib.hid (show j + [Value.bool bb].length ≤ maxLen by simp; unfold maxLen; omega)
        have HNY := Lib.hid (show (j + [Value.bool bb].length) * 1 ≤ 140737488355328 by simp; omega)
        clear hfw kN hxc hrc hbc kec h1c h2c hlc hbec hrwc h1N h2N hEl hXl hwab hN hwc n1X n1R n1G n1E n1N n2X n2R n2G n2E n2N d12 d21 hF hFG hFX hFN hF1 hF2 hsep hfb HX HR HB H1 H2 HL HRW HBE KE HF H1E H2E e0' e1'
        go_upto_region 6 with fail
        rw [← HWC.out, HNW.out]
        go_cut [0, 8] (fun s0 s8 wx => s0 = .slice a0 n0 c0 ∧ s8 = .pointer (some ⟨E, 0, none⟩) ∧ StepMid op (.slice av nv cv) l es bx G R X j E k0 v0 (.slice a0 n0 c0) w wx)
        case first =>
          go_region_law ((first
            | (refine step_apRw (by rfl) (.tmp 26) (.tmp 28) 22 (by rfl) G 2 25 (.agg #[.int .i64 0, .int .i64 0]) 16 Try.underlying22 info_ave rfl (by decide) (.slice q1 j c1) j (aes ((osK op l es j).map oget)).flatten (by rfl) ?_ _ [[Value.int .i64 kk, Value.int .i64 vv]] (by rfl) ?_ (by simp) (by simp [Value.oneCell']) HMX.out HMY.out ?_ ?_; (repeat (first | with_reducible exact H1C.out | with_reducible exact H1B.out | with_reducible refine World.ownsRow.alloc ?_ _ | with_reducible refine row_drew ?_)); (first | show Rw 2 _ (.slice (some ⟨wd.heap.size, 0, none⟩) 1 1) _ | show Rw 2 _ (.slice (some ⟨wd.heap.size + 1, 0, none⟩) 1 1) _ | show Rw 2 _ (.slice (some ⟨w8.heap.size, 0, none⟩) 1 1) _); (repeat (first | ((with_reducible refine rw_oneE _ _ _ _ _ ?_); first | rfl | exact (World.size_alloc _ _).symm | (simp; done)) | with_reducible exact HRWa.out | with_reducible exact HRWb.out | with_reducible refine Rw.drew' ?_ | with_reducible refine Rw.alloc' ?_ _)); (first | exact hs8 | exact hsc | (simp; omega)); intro p9 m9 c9 w9 hown9 hg9 hb9; (first | (refine (have HSLa : Hid (Sl w9 (.slice (some ⟨wd.heap.size, 0, none⟩) 1 1) [Value.bool bb]) := Lib.hid (Sl.fr1 ?_ (Fr.of_grown (v' := .slice q1 j c1) hg9 (fun k hk => .inl hk)) (fun e => by have := (own_lt H1C.out _ e).1; omega)); ?_); focus ((repeat (first | ((with_reducible refine sl_oneE _ _ _ _ ?_); first | rfl | exact (World.size_alloc _ _).symm | (simp; done)) | with_reducible refine Sl.drew' ?_ | with_reducible refine Sl.alloc' ?_ _)); done)) | skip); (first | (refine (have HSLb : Hid (Sl w9 (.slice (some ⟨wd.heap.size + 1, 0, none⟩) 1 1) [Value.bool bb]) := Lib.hid (Sl.fr1 ?_ (Fr.of_grown (v' := .slice q1 j c1) hg9 (fun k hk => .inl hk)) (fun e => by have := (own_lt H1C.out _ e).1; omega)); ?_); focus ((repeat (first | ((with_reducible refine sl_oneE _ _ _ _ ?_); first | rfl | exact (World.size_alloc _ _).symm | (simp; done)) | with_reducible refine Sl.drew' ?_ | with_reducible refine Sl.alloc' ?_ _)); done)) | skip); have HO9 := Lib.hid hown9; have HF9 : Hid (Fr F [] wd w9) := Lib.hid (Fr.grown0 (by (repeat (first | with_reducible exact Fr.refl0 _ _ | with_reducible exact HF8.out | with_reducible refine Fr.drew ?_ | with_reducible refine Fr.alloc ?_ _))) hg9 HF1.out); have HX9 := Lib.hid (HF9.out.blk HXC.out HFX.out); have KN9 := Lib.hid (HF9.out.blk KNC.out HFN.out); (first | (have tok := H1B) | have H2B : Hid (w9.ownsRow G 4 1 (.slice q2 j c2) j (bvs ((osK op l es j).map Option.isSome))) := Lib.hid ((Fr.of_grown (v' := .slice q1 j c1) hg9 (fun k hk => .inl hk)).own (by (repeat (first | with_reducible exact H2C.out | with_reducible refine World.ownsRow.alloc ?_ _ | with_reducible refine row_drew ?_))) D21.out)); (first | (have HOB8 := Lib.hid ((Fr.of_grown (v' := .slice q1 j c1) hg9 (fun k hk => .inl hk)).own HO8.out (row_row HO8.out H1B.out (by decide)))) | (have HOB8 := Lib.hid ((Fr.of_grown (v' := .slice q1 j c1) hg9 (fun k hk => .inl hk)).own (World.ownsRow.alloc HO8.out (.cells #[Value.int .i64 kk, Value.int .i64 vv] 25)) (row_row HO8.out H1B.out (by decide)))) | skip); have g1 : w9.cell? ⟨X, 1, none⟩ = some (.slice q1 j c1) := HX9.out.cell 1 rfl; have g2 : w9.cell? ⟨X, 2, none⟩ = some (.slice q2 j c2) := HX9.out.cell 2 rfl; have g3 := HX9.out.free 1; have g4 := HX9.out.free 2; have g5 : w9.cell? ⟨N, 0, none⟩ = some (.int .i64 kk) := KN9.out.cell 0 rfl; have g6 : w9.cell? ⟨N, 1, none⟩ = some (.int .i64 vv) := KN9.out.cell 1 rfl; have hs9 : G ≤ w9.heap.size := Nat.le_trans hsc HF9.out.size; have hX9 := HX9.out.lt; have hN9 := KN9.out.lt; clear hg9 hown9 hb9)
            | (refine step_apSl (by rfl) (.tmp 31) (.tmp 33) 34 34 (by rfl) G 4 4 (.bool false) 1 Try.underlying34 Try.underlying34 info_boo rfl (.slice q2 j c2) j (bvs ((osK op l es j).map Option.isSome)) (by rfl) ?_ _ [Value.bool bb] (by rfl) ?_ (by simp [Value.oneCell']) HNX.out HNY.out ?_ ?_; (repeat (first | with_reducible exact H2C.out | with_reducible exact H2B.out | with_reducible refine World.ownsRow.alloc ?_ _ | with_reducible refine row_drew ?_)); (first | show Sl _ (.slice (some ⟨wd.heap.size, 0, none⟩) 1 1) _ | show Sl _ (.slice (some ⟨wd.heap.size + 1, 0, none⟩) 1 1) _ | show Sl _ (.slice (some ⟨w9.heap.size, 0, none⟩) 1 1) _); (repeat (first | ((with_reducible refine sl_oneE _ _ _ _ ?_); first | rfl | exact (World.size_alloc _ _).symm | (simp; done)) | with_reducible exact HSLa.out | with_reducible exact HSLb.out | with_reducible refine Sl.drew' ?_ | with_reducible refine Sl.alloc' ?_ _)); (first | exact hs9 | exact hsc | (simp; omega)); intro p8 m8 c8 w8 hown8 hg8 hb8; (first | (refine (have HRWa : Hid (Rw 2 w8 (.slice (some ⟨wd.heap.size, 0, none⟩) 1 1) [[Value.int .i64 kk, Value.int .i64 vv]]) := Lib.hid (Rw.fr1 ?_ (Fr.of_grown (v' := .slice q2 j c2) hg8 (fun k hk => .inl hk)) (fun e => by have := (own_lt H2C.out _ e).1; omega)); ?_); focus ((repeat (first | ((with_reducible refine rw_oneE _ _ _ _ _ ?_); first | rfl | exact (World.size_alloc _ _).symm | (simp; done)) | with_reducible refine Rw.drew' ?_ | with_reducible refine Rw.alloc' ?_ _)); done)) | skip); (first | (refine (have HRWb : Hid (Rw 2 w8 (.slice (some ⟨wd.heap.size + 1, 0, none⟩) 1 1) [[Value.int .i64 kk, Value.int .i64 vv]]) := Lib.hid (Rw.fr1 ?_ (Fr.of_grown (v' := .slice q2 j c2) hg8 (fun k hk => .inl hk)) (fun e => by have := (own_lt H2C.out _ e).1; omega)); ?_); focus ((repeat (first | ((with_reducible refine rw_oneE _ _ _ _ _ ?_); first | rfl | exact (World.size_alloc _ _).symm | (simp; done)) | with_reducible refine Rw.drew' ?_ | with_reducible refine Rw.alloc' ?_ _)); done)) | skip); have HO8 := Lib.hid hown8; have HF8 : Hid (Fr F [] wd w8) := Lib.hid (Fr.grown0 (by (repeat (first | with_reducible exact Fr.refl0 _ _ | with_reducible exact HF9.out | with_reducible refine Fr.drew ?_ | with_reducible refine Fr.alloc ?_ _))) hg8 HF2.out); have HX8 := Lib.hid (HF8.out.blk HXC.out HFX.out); have KN8 := Lib.hid (HF8.out.blk KNC.out HFN.out); (first | (have tok := H2B) | have H1B : Hid (w8.ownsRow G 25 2 (.slice q1 j c1) j (aes ((osK op l es j).map oget)).flatten) := Lib.hid ((Fr.of_grown (v' := .slice q2 j c2) hg8 (fun k hk => .inl hk)).own (by (repeat (first | with_reducible exact H1C.out | with_reducible refine World.ownsRow.alloc ?_ _ | with_reducible refine row_drew ?_))) D12.out)); (first | (have HOB9 := Lib.hid ((Fr.of_grown (v' := .slice q2 j c2) hg8 (fun k hk => .inl hk)).own HO9.out (row_row HO9.out H2B.out (by decide)))) | (have HOB9 := Lib.hid ((Fr.of_grown (v' := .slice q2 j c2) hg8 (fun k hk => .inl hk)).own (World.ownsRow.alloc HO9.out (.cells #[Value.bool bb] 4)) (row_row HO9.out H2B.out (by decide)))) | skip); have g1 : w8.cell? ⟨X, 1, none⟩ = some (.slice q1 j c1) := HX8.out.cell 1 rfl; have g2 : w8.cell? ⟨X, 2, none⟩ = some (.slice q2 j c2) := HX8.out.cell 2 rfl; have g3 := HX8.out.free 1; have g4 := HX8.out.free 2; have g5 : w8.cell? ⟨N, 0, none⟩ = some (.int .i64 kk) := KN8.out.cell 0 rfl; have g6 : w8.cell? ⟨N, 1, none⟩ = some (.int .i64 vv) := KN8.out.cell 1 rfl; have hs8 : G ≤ w8.heap.size := Nat.le_trans hsc HF8.out.size; have hX8 := HX8.out.lt; have hN8 := KN8.out.lt; clear hg8 hown8 hb8)
            | fail))
          all_goals (
            refine by_mid2 (M := StepMid op (.slice av nv cv) l es bx G R X j E k0 v0 (.slice a0 n0 c0) w) ?_ ?_
            · obtain ⟨d1, d2, d3, d4, d5, d6, d7, d8⟩ := HDS.out
              (first
                | with_reducible exact (step_mid HF8.out HXC.out HRC.out HBC.out KEC.out HFI.out d1 d2 d3 d4 d5 d6 d7 d8 HFG.out hEX gRX gGX gGX' HLC.out HSEP.out HV.out HG.out.symm HBEC.out HOB9.out HO8.out ⟨rfl, S1.out⟩ ⟨rfl, S2.out⟩).1
                | with_reducible exact (step_mid HF8.out HXC.out HRC.out HBC.out KEC.out HFI.out d1 d2 d3 d4 d5 d6 d7 d8 HFG.out hEX gRX gGX gGX' HLC.out HSEP.out HV.out HG.out.symm HBEC.out HOB9.out HO8.out ⟨rfl, S1.out⟩ ⟨rfl, S2.out⟩).2
                | with_reducible exact (step_mid HF9.out HXC.out HRC.out HBC.out KEC.out HFI.out d1 d2 d3 d4 d5 d6 d7 d8 HFG.out hEX gRX gGX gGX' HLC.out HSEP.out HV.out HG.out.symm HBEC.out HO9.out HOB8.out ⟨rfl, S1.out⟩ ⟨rfl, S2.out⟩).1
                | with_reducible exact (step_mid HF9.out HXC.out HRC.out HBC.out KEC.out HFI.out d1 d2 d3 d4 d5 d6 d7 d8 HFG.out hEX gRX gGX gGX' HLC.out HSEP.out HV.out HG.out.symm HBEC.out HO9.out HOB8.out ⟨rfl, S1.out⟩ ⟨rfl, S2.out⟩).2)
            · intro wx hmid
              have HMID := Lib.hid hmid
              clear hmid g1 g2 g3 g4 g5 g6
              go_wp2_with fail
              go_meet
              exact ⟨rfl, rfl, HMID.out⟩)
        case rest =>
          obtain ⟨rfl, rfl, q1', c1', q2', c2', hx', ho1', ho2', hr', hb', he', hrw', hbel'⟩ := hcut
          rw [HLJ.out] at hrw'
          have hbq := hb'
          rw [HBX.out] at hbq
          have b0 := hbq.cell 0 rfl
          have e0 := he'.cell 0 rfl
          have e1 := he'.cell 1 rfl
          have HX' := Lib.hid hx'
          have HO1' := Lib.hid ho1'
          have HO2' := Lib.hid ho2'
          have HR' := Lib.hid hr'
          have HB' := Lib.hid hb'
          have KE' := Lib.hid he'
          have HBE' := Lib.hid hbel'
          have hgc : G ≤ wc.heap.size := by have := hbel'.size; have := HG.out; omega
          have h1N := fun k hk => (own_lt ho1' k hk).1
          have HWO := Lib.hid (avwithout_any (.slice a0 n0 c0) Lj k0 wc hrw' (by omega))
          have HLAST : Hid (op = 3 → (Value.slice a0 n0 c0) = .slice av nv cv) := Lib.hid fun e => by
            rcases HLC.out with ⟨_, h⟩ | ⟨h, _⟩
            · exact h
            · exact absurd e h
          obtain ⟨Z, hZ⟩ : ∃ Z, wc.heap.size = Z := ⟨_, rfl⟩
          have HZ := Lib.hid hZ
          have H1N := Lib.hid h1N
          clear hx' ho1' ho2' hr' hb' he' hrw' hbel' hbq h1N HWC HNW hsc x1 x2 f1 f2 hXc hNc HXC HRC HBC KEC KNC H1C H2C HLC HBEC HDS D12 D21 HFI HFG HFX HFN HF1 HF2 HSEP HMX HMY HNX HNY S1 S2 HE HWA hgs hEX
          have hcs : op = 1 ∨ op = 2 ∨ op = 3 := by omega
          rcases hcs with rfl | rfl | rfl
          · clear HLAST hZ
            go_wp2_with fail
            refine HWO.out.mono ?_
            rintro e wf ⟨q5, c5, rfl, ho5, hb5⟩
            have e0 : wf.cell? ⟨E, 0, none⟩ = some (.int .i64 k0) := (KE'.out.next hb5).cell 0 rfl
            have e1 : wf.cell? ⟨E, 1, none⟩ = some (.int .i64 v0) := (KE'.out.next hb5).cell 1 rfl
            have b0 : wf.cell? ⟨G, 0, none⟩ = some (.int .i64 ((1 : Nat) : Int)) := by
              have h := HB'.out.next hb5
              rw [HBX.out] at h
              exact h.cell 0 rfl
            have hdl : (delS Lj k0).length ≤ 60000 := Nat.le_trans (List.length_filter_le _ _) hlen
            obtain ⟨dl, hdl2⟩ : ∃ dl, (delS Lj k0).length = dl := ⟨_, rfl⟩
            rw [hdl2] at ho5 hdl ⊢
            have HDL := Lib.hid hdl2
            have HO5 := Lib.hid ho5
            have HB5 := Lib.hid hb5
            have hsf : wc.heap.size ≤ wf.heap.size := hb5.size
            have hone : ∀ u ∈ (#[.int .i64 k0, .int .i64 v0] : Array Value).toList, u.oneCell' = true := by
              intro u hu
              simp at hu
              rcases hu with rfl | rfl <;> rfl
            have HON := Lib.hid hone
            clear ho5 hb5 hdl2 hone HWO
            go_wp2_with (at_builtin; refine wpList_appendS rfl _ _ 22 rfl wc.heap.size 2 25 (.agg #[.int .i64 0, .int .i64 0]) 16 Try.underlying22 info_ave rfl (by decide) (.slice q5 dl c5) dl (aes (delS Lj k0)).flatten rfl HO5.out #[.int .i64 k0, .int .i64 v0] rfl rfl HON.out (by unfold maxLen; omega) (by omega) hsf ?_; intro g6 k6 w6 hown6 hg6 hb6; have HO6 := Lib.hid hown6; have HB6 := Lib.hid (HB5.out.trans hb6); clear hown6 hg6 hb6)
            go_roundg k
            case measure => omega
            case rel =>
              have e3 : stepL 1 l (es.take (j + 1)) = delS Lj k0 ++ [(k0, v0)] := HLS.out
              have e4 : (delS Lj k0 ++ [(k0, v0)]).length = dl + 1 := by rw [List.length_append, HDL.out]; rfl
              have ho7 : w6.ownsRow wc.heap.size 25 2 (.slice (some ⟨g6, 0, none⟩) (dl + 1) k6) (dl + 1) (aes (delS Lj k0 ++ [(k0, v0)])).flatten := by
                have := HO6.out
                unfold aes at this ⊢
                rw [List.map_append, List.flatten_append]
                exact this
              refine ⟨j + 1, q1', c1', q2', c2', _, _, _, rfl, by go_num, by omega, HX'.out.next HB6.out, (Fr.of_below [] HB6.out).own HO1'.out (fun _ _ h => by cases h), (Fr.of_below [] HB6.out).own HO2'.out (fun _ _ h => by cases h), HR'.out.next HB6.out, HB'.out.next HB6.out, .inr ⟨by decide, some ⟨g6, 0, none⟩, k6, ?_, ?_, ?_⟩, HBE'.out.trans (HB6.out.mono hgc)⟩
              · rw [e3, e4]
              · rw [e3, e4]; exact own_base' ho7 hgc
              · intro x hx hx2
                have h1 := H1N.out x (mem_obl.2 hx2)
                have h2 := (own_lt ho7 x (mem_obl.2 hx)).2
                omega
          · clear HLAST hZ
            go_wp2_with fail
            refine HWO.out.mono ?_
            rintro e wf ⟨q5, c5, rfl, ho5, hb5⟩
            have b0 : wf.cell? ⟨G, 0, none⟩ = some (.int .i64 ((2 : Nat) : Int)) := by
              have h := HB'.out.next hb5
              rw [HBX.out] at h
              exact h.cell 0 rfl
            have HO5 := Lib.hid ho5
            have HB5 := Lib.hid hb5
            clear ho5 hb5 HWO e0 e1
            go_wp2_with fail
            go_roundg k
            case measure => omega
            case rel =>
              have e3 : stepL 2 l (es.take (j + 1)) = delS Lj k0 := HLS.out
              refine ⟨j + 1, q1', c1', q2', c2', _, _, _, rfl, by go_num, by omega, HX'.out.next HB5.out, (Fr.of_below [] HB5.out).own HO1'.out (fun _ _ h => by cases h), (Fr.of_below [] HB5.out).own HO2'.out (fun _ _ h => by cases h), HR'.out.next HB5.out, HB'.out.next HB5.out, .inr ⟨by decide, q5, c5, ?_, ?_, ?_⟩, HBE'.out.trans (HB5.out.mono hgc)⟩
              · rw [e3]
              · rw [e3]; exact own_base' HO5.out hgc
              · intro x hx hx2
                have h1 := H1N.out x (mem_obl.2 hx2)
                have h2 := (own_lt HO5.out x (mem_obl.2 hx)).2
                omega
          · clear hZ HWO e0 e1
            go_wp2_with fail
            go_roundg k
            case measure => omega
            case rel => exact ⟨j + 1, q1', c1', q2', c2', _, _, _, rfl, by go_num, by omega, HX'.out, HO1'.out, HO2'.out, HR'.out, HB'.out, .inl ⟨.inl rfl, HLAST.out trivial⟩, HBE'.out⟩
    · obtain rfl : j = n := by omega
      have htk : es.take j = es := List.take_of_length_le (by rw [HN.out]; exact Nat.le_refl _)
      have hrw0 := hl.rw HV.out HG.out.symm hbel
      rw [htk] at hrw0
      have HLH := Lib.hid hl
      have HTK := Lib.hid htk
      have x0 := hx.cell 0 rfl
      have x1 := hx.cell 1 rfl
      have x2 := hx.cell 2 rfl
      have fx := hx.free 0
      have r0 := hr.cell 0 rfl
      have r1 := hr.cell 1 rfl
      have r2 := hr.cell 2 rfl
      have f0 := hr.free 0
      have f1 := hr.free 1
      have f2 := hr.free 2
      have hll : n0 = (stepL op l es).length := by
        obtain ⟨_, _, _, e, h, _⟩ := hrw0
        rw [aes_len] at h
        injection e with _ e
        omega
      have HX := Lib.hid hx
      have HR := Lib.hid hr
      have H1 := Lib.hid ho1
      have H2 := Lib.hid ho2
      have HRW := Lib.hid hrw0
      have HBE := Lib.hid hbel
      have HLL := Lib.hid hll
      have hRX2 : ¬ X = R := fun e => gRX e.symm
      clear hx hr hb hl ho1 ho2 hbel hrw0 hll htk
      go_wp2_with fail
      have k0 := Fr.store wr (F := [X]) (a := ⟨X, 0, none⟩) (by simp) (.int .i64 (n0 : Int))
      have hx7 := HX.out.set 0 (.int .i64 (n0 : Int))
      have hr7 := HR.out.other (a := ⟨X, 0, none⟩) gRX (.int .i64 (n0 : Int))
      have nA : ∀ k ∈ obl (.slice q1 j c1), k ∉ [X] := fun k hk e => by
        rw [List.mem_singleton] at e
        subst e
        exact row_blk H1.out HX.out (by decide) (mem_obl.1 hk)
      have nB : ∀ k ∈ obl (.slice q2 j c2), k ∉ [X] := fun k hk e => by
        rw [List.mem_singleton] at e
        subst e
        exact row_blk H2.out HX.out (by decide) (mem_obl.1 hk)
      have h17 := k0.own H1.out nA
      have h27 := k0.own H2.out nB
      have hB7 : Below G w (wr.setCell ⟨X, 0, none⟩ (.int .i64 (n0 : Int))) := HBE.out.trans (k0.below (fun k hk => by rw [List.mem_singleton.1 hk]; exact gGX') hgs)
      have hrw7 : LHand G op (.slice av nv cv) (stepL op l (es.take j)) (.slice q1 j c1) j (.slice a0 n0 c0) (wr.setCell ⟨X, 0, none⟩ (.int .i64 (n0 : Int))) :=
        HLH.out.fr (Fr.of0 (Fr.refl0 [X] wr) k0 (fun x hx => .inl hx)) fun n xs ho _ k hk e => by
          rw [List.mem_singleton] at e
          subst e
          exact row_blk ho HX.out (by decide) (mem_obl.1 hk)
      obtain ⟨w7, hw7⟩ : ∃ w7, w7 = wr.setCell ⟨X, 0, none⟩ (.int .i64 (n0 : Int)) := ⟨_, rfl⟩
      rw [← hw7] at hx7 hr7 h17 h27 hB7 hrw7 ⊢
      have x0 : w7.cell? ⟨X, 0, none⟩ = some (.int .i64 (n0 : Int)) := hx7.cell 0 rfl
      have x1 : w7.cell? ⟨X, 1, none⟩ = some (.slice q1 j c1) := hx7.cell 1 rfl
      have x2 : w7.cell? ⟨X, 2, none⟩ = some (.slice q2 j c2) := hx7.cell 2 rfl
      have r0 := hr7.cell 0 rfl
      have r1 := hr7.cell 1 rfl
      have r2 := hr7.cell 2 rfl
      have f0 := hr7.free 0
      have f1 := hr7.free 1
      have f2 := hr7.free 2
      have HX7 := Lib.hid hx7
      have HR7 := Lib.hid hr7
      have H17 := Lib.hid h17
      have H27 := Lib.hid h27
      have HB7 := Lib.hid hB7
      have HRW7 := Lib.hid hrw7
      have hg7 : G ≤ w7.heap.size := by have := hB7.size; have := HG.out; omega
      have hRl : R < w7.heap.size := hr7.lt
      clear k0 hx7 hr7 h17 h27 hB7 hrw7 nA nB hw7 fx HX HR H1 H2 HRW HBE HLH
      refine wp_region_still_tail 3 (by kernel_rfl) (by kernel_rfl) ?_
      simp only [List.take_succ_cons, List.take_zero, List.drop_succ_cons, List.drop_zero]
      repeat still_step
      refine wpStill_nil ?_
      change wpList _ _ _ _ _ w7.drew
      go_wp2_with fail
      refine bodyPost_ret (v := .tuple #[.slice a0 n0 c0, .agg #[.int .i64 (n0 : Int), .slice q1 j c1, .slice q2 j c2]]) (by simp [results, Try.results18, go_sem, *]) rfl ?_
      have k1 := Fr.store w7 (F := [R]) (a := ⟨R, 0, none⟩) (by simp) (.int .i64 (n0 : Int))
      have k2 := Fr.store (w7.setCell ⟨R, 0, none⟩ (.int .i64 (n0 : Int))) (F := [R]) (a := ⟨R, 1, none⟩) (by simp) (.slice q1 j c1)
      have k3 := Fr.store ((w7.setCell ⟨R, 0, none⟩ (.int .i64 (n0 : Int))).setCell ⟨R, 1, none⟩ (.slice q1 j c1)) (F := [R]) (a := ⟨R, 2, none⟩) (by simp) (.slice q2 j c2)
      have ka := ((k1.trans k2).trans k3).drew
      have gR' : G ≤ R := gGR'
      have hBF : Below G w (((w7.setCell ⟨R, 0, none⟩ (.int .i64 (n0 : Int))).setCell ⟨R, 1, none⟩ (.slice q1 j c1)).setCell ⟨R, 2, none⟩ (.slice q2 j c2)).drew := HB7.out.trans (ka.below (fun k hk => by rw [List.mem_singleton.1 hk]; exact gR') hg7)
      have hLH := HRW7.out.fr (Fr.of0 (Fr.refl0 [R] w7) ka (fun x hx => .inl hx)) fun n xs ho _ k hk e => by
        rw [List.mem_singleton] at e
        subst e
        exact row_blk ho HR7.out (by decide) (mem_obl.1 hk)
      have hLF := hLH.rw HV.out HG.out.symm hBF
      rw [HTK.out] at hLF hLH
      rw [HG.out]
      refine ⟨.slice a0 n0 c0, q1, c1, q2, c2, by rw [HLL.out], hLF, fun h1 h2 => ?_, ka.own H17.out (fun k hk e => ?_), ka.own H27.out (fun k hk e => ?_), hBF⟩
      · rcases hLH with ⟨h | h, _⟩ | ⟨_, q, c, e, ho, _⟩
        · exact absurd h h1
        · exact absurd h2 (by rw [h]; exact Nat.lt_irrefl 0)
        · exact ho
      · rw [List.mem_singleton] at e
        subst e
        exact row_blk H17.out HR7.out (by decide) (mem_obl.1 hk)
      · rw [List.mem_singleton] at e
        subst e
        exact row_blk H27.out HR7.out (by decide) (mem_obl.1 hk)
theorem avstep_any : AvStepC := fun vl l es op frm ve w hv he hn hL hop hop3 => avstep_any' vl l es op frm ve w hv he hn hL hop hop3
end Go.Proofs.Ytnfkjcopeljknaa
