/- FnAVBack: what was put in is taken out again. -/
import Derived.Test.YtidekgmpbcnfmaaAvBackPlain
import Derived.Test.YtidekgmpbcnfmaaAvClone
import Derived.Test.YtidekgmpbcnfmaaAvDelete
import Derived.Test.YtidekgmpbcnfmaaAvOpen
import Derived.Test.YtidekgmpbcnfmaaAvKeep
import Derived.Test.YtidekgmpbcnfmaaAvEq
import Derived.Test.YtidekgmpbcnfmaaAvSaid
import Derived.Deep.RegionHeld3
namespace Go.Proofs.Ytidekgmpbcnfmaa
set_option linter.unusedVariables false
open Go.RowKit Avm

theorem rwNew {S : Nat} (w : World) (e : TypeId) (cs : Array Value) (rows : List (List Value)) (hS : ∀ r ∈ rows, r.length = S) (hc : cs.toList = rows.flatten) (n : Nat) (hn : rows.length = n) (hm : n ≤ maxLen) : Rw S (w.alloc (.cells cs e)) (.slice (some ⟨w.heap.size, 0, none⟩) n n) rows := by
  refine ⟨_, n, n, rfl, hn, Nat.le_refl _, hm, fun _ => ⟨_, 0, rfl, fun i row hi j u hu => ?_⟩⟩
  have hf := flatten_at S rows hS i j row u hi hu
  rw [Nat.zero_add]
  refine (Blk.new w e cs).cell (i * S + j) ?_
  rw [← Array.getElem?_toList, hc]
  exact hf
theorem map_get (l : Lst) : (l.map some).map oget = l := by
  rw [List.map_map]
  exact List.map_id'' (fun x => rfl) l
theorem asteps_nil (w : World) : AStepsAt w [] [] := ⟨rfl, fun i row s hr _ => by simp at hr⟩
theorem asteps_cons {w : World} {R : List (List Value)} {S : List AStp} (h : AStepsAt w R S) (op frm : Nat) (es : Lst) (v : Value) (hv : Rw 2 w v (aes es)) : AStepsAt w ([.int .i64 (op : Int), .int .i64 (frm : Int), v] :: R) (⟨op, frm, es⟩ :: S) := by
  refine ⟨by simp [h.1], fun i row s hr hs => ?_⟩
  cases i with
  | zero =>
    simp at hr hs
    subst hr hs
    exact ⟨v, rfl, hv⟩
  | succ i =>
    simp at hr hs
    exact h.2 i row s hr hs

set_option maxRecDepth 100000 in
set_option maxHeartbeats 8000000 in
theorem law_avback (v0 v1 : Value) (w : World) (w0 : AnyIts w v0) (w1 : AnyIts w v1) :
    Calls Try.prog 3 #[v0, v1] w fun e w' => e = .returned (.bool true) ∧ Below w.heap.size w w' := by
  obtain ⟨la, ha⟩ := w0
  obtain ⟨lb, hb⟩ := w1
  obtain ⟨a0, c0, rfl⟩ := rw_out ha
  obtain ⟨a1, c1, rfl⟩ := rw_out hb
  have HA := Lib.hid ha
  have HB := Lib.hid hb
  obtain ⟨n0, hn0⟩ : ∃ n, la.length = n := ⟨_, rfl⟩
  obtain ⟨n1, hn1⟩ : ∃ n, lb.length = n := ⟨_, rfl⟩
  rw [hn0] at HA ⊢
  rw [hn1] at HB ⊢
  have HN0 := Lib.hid hn0
  have HN1 := Lib.hid hn1
  clear ha hb hn0 hn1
  go_enter Try.func3, Try.ntmps3
  by_cases z0 : (2147483647 : Int) < (n0 : Int)
  · have d0 : decide ((2147483647 : Int) < (n0 : Int)) = true := by simpa using z0
    clear z0
    go_wp2_with fail
    go_ret
    exact ⟨rfl, Below.refl _ _⟩
  have d0 : decide ((2147483647 : Int) < (n0 : Int)) = false := by simpa using z0
  by_cases z1 : (2147483647 : Int) < (n1 : Int)
  · have d1 : decide ((2147483647 : Int) < (n1 : Int)) = true := by simpa using z1
    clear z0 z1
    go_wp2_with fail
    go_ret
    exact ⟨rfl, Below.refl _ _⟩
  have d1 : decide ((2147483647 : Int) < (n1 : Int)) = false := by simpa using z1
  by_cases k0 : (30 : Int) < (n0 : Int)
  · have e0 : decide ((30 : Int) < (n0 : Int)) = true := by simpa using k0
    clear z0 z1 k0
    go_wp2_with fail
    go_ret
    exact ⟨rfl, Below.refl _ _⟩
  have e0 : decide ((30 : Int) < (n0 : Int)) = false := by simpa using k0
  by_cases k1 : (30 : Int) < (n1 : Int)
  · have e1 : decide ((30 : Int) < (n1 : Int)) = true := by simpa using k1
    clear z0 z1 k0 k1
    go_wp2_with fail
    go_ret
    exact ⟨rfl, Below.refl _ _⟩
  have e1 : decide ((30 : Int) < (n1 : Int)) = false := by simpa using k1
  have m0 : n0 ≤ 30 := by omega
  have m1 : n1 ≤ 30 := by omega
  clear z0 z1 k0 k1
  go_wp2_with fail
  refine (avfirst_any _ la w HA.out (by rw [HN0.out]; omega)).mono ?_
  rintro e w2 ⟨qf, cf, rfl, hof, hb2⟩
  obtain ⟨F, hF⟩ : ∃ F, firstL la = F := ⟨_, rfl⟩
  have hFl : F.length ≤ 30 := by rw [← hF]; have := firstL_len la; have := HN0.out; omega
  obtain ⟨mo, hmo⟩ := first_more la lb
  have hdk := dk_first (firstL la ++ lb)
  have hal := firstL_len (firstL la ++ lb)
  rw [hmo, hF] at hdk
  rw [hmo, hF, List.length_append, List.length_append, HN1.out] at hal
  rw [hF] at hmo hof ⊢
  obtain ⟨f, hf⟩ : ∃ f, F.length = f := ⟨_, rfl⟩
  rw [hf] at hFl hof hal ⊢
  have HF := Lib.hid hf
  have HMO := Lib.hid hmo
  have HDK := Lib.hid hdk
  have HOF := Lib.hid hof
  have HB2 := Lib.hid hb2
  have HCL := Lib.hid (avclone_any qf f cf F w2 (Rw.of_owns (aes_two _) (by decide) (by rw [← hf] at hof ⊢; exact hof)) (by omega))
  clear hof hb2 hF hmo hdk hf d0 d1 e0 e1
  go_wp2_with fail
  refine HCL.out.mono ?_
  rintro e w3 ⟨qc, cc, rfl, hoc, hb3⟩
  rw [HF.out] at hoc ⊢
  have HOC := Lib.hid hoc
  have HB3 := Lib.hid (HB2.out.trans (hb3.mono HB2.out.size))
  have HLB := Lib.hid (HB.out.below rfl HB3.out)
  have hs3 := hb3.size
  have hs2 := HB2.out.size
  have HB23 := Lib.hid hb3
  clear hoc hb3 HB2 HCL
  go_wp2_with (at_builtin; refine wpList_apRw rfl _ _ 22 rfl w2.heap.size 2 25 (.agg #[.int .i64 0, .int .i64 0]) 16 Try.underlying22 info_ave rfl (by decide) (.slice qc f cc) f (aes F).flatten rfl HOC.out (.slice a1 n1 c1) (aes lb) rfl HLB.out (aes_two lb) (aes_one lb) (by rw [aes_len, HN1.out]; unfold maxLen; omega) (by rw [aes_len, HN1.out]; omega) hs3 ?_; intro p6 m6 c6 w6 hown6 hg6 hb6; have HO6 := Lib.hid hown6; have HB6 := Lib.hid hb6; clear hown6 hg6 hb6)
  have ho6 := HO6.out
  rw [aes_len, HN1.out] at ho6
  have hm6 := own_nK ho6
  subst hm6
  have hcat : (aes F).flatten ++ (aes lb).flatten = (aes (F ++ lb)).flatten := by simp [aes]
  rw [hcat] at ho6
  have hl6 : (F ++ lb).length ≤ 1000 := by rw [List.length_append, HF.out, HN1.out]; omega
  have hFI := avfirst_any (.slice p6 (f + n1) c6) (F ++ lb) w6 (Rw.of_owns (aes_two _) (by decide) ho6) hl6
  have HFI := Lib.hid hFI
  have hb26 := HB23.out.trans HB6.out
  have HB26 := Lib.hid hb26
  have HOF6 := Lib.hid ((Fr.of_below [] hb26).own HOF.out (fun _ _ h => by cases h))
  have HBW6 := Lib.hid (HB3.out.trans (HB6.out.mono hs2))
  clear ho6 hcat hl6 hFI hb26 HO6 HOF HB23 HB3 HLB HOC hs3
  refine HFI.out.mono ?_
  rintro e w7 ⟨qa, ca, rfl, hoa, hb7⟩
  rw [HMO.out, List.length_append, HF.out] at hoa ⊢
  obtain ⟨g, hg⟩ : ∃ g, mo.length = g := ⟨_, rfl⟩
  rw [hg] at hoa hal ⊢
  have HG := Lib.hid hg
  have hra : Rw 2 w7 (.slice qa (f + g) ca) (aes (F ++ mo)) := Rw.of_owns (aes_two _) (by decide) hoa
  obtain ⟨-, hca, hcm, hqa⟩ := Rw.some hra
  have HOA := Lib.hid hoa
  have HRA := Lib.hid hra
  have HBW7 := Lib.hid (HBW6.out.trans (hb7.mono HBW6.out.size))
  have HOF7 := Lib.hid ((Fr.of_below [] hb7).own HOF6.out (fun _ _ h => by cases h))
  have HQA := Lib.hid hqa
  clear hoa hra hb7 hg HFI HOF6 HBW6 hqa
  have q1 : (f : Int) ≤ (f : Int) + (g : Int) := by omega
  have q2 : f ≤ f + g := by omega
  have q3 : f ≤ ca := by omega
  by_cases hf0 : f = 0
  · subst hf0
    go_wp2_with fail
    go_ret
    exact ⟨rfl, HBW7.out⟩
  · have bf : ((f : Int) == 0) = false := by rw [beq_eq_false_iff_ne]; omega
    obtain ⟨b, off, rfl⟩ := HQA.out (by omega)
    clear HQA
    by_cases hg0 : g = 0
    · subst hg0
      by_cases hcf : ca = f
      · subst hcf
        go_wp2_with fail
        go_ret
        exact ⟨rfl, HBW7.out⟩
      · have hcf2 : f < ca := by omega
        go_wp2_with fail
        go_ret
        exact ⟨rfl, HBW7.out⟩
    · have bg : ((g : Int) == 0) = false := by rw [beq_eq_false_iff_ne]; omega
      have hcf : ¬ ca = f := by omega
      have hcf2 : f < ca := by omega
      go_wp2_with fail
      refine (avkeys_any _ (F ++ mo) w7 HRA.out (by rw [List.length_append, HF.out, HG.out]; omega)).mono ?_
      rintro e w8 ⟨qk, ck, q2, c2, rfl, hok, hb8⟩
      rw [List.length_append, HF.out, HG.out] at hok ⊢
      have HBW8 := Lib.hid (HBW7.out.trans (hb8.mono HBW7.out.size))
      have RF8 := Lib.hid (show Rw 2 w8 (.slice qf f cf) (aes F) from Rw.of_owns (aes_two _) (by decide) ((Fr.of_below [] hb8).own HOF7.out (fun _ _ h => by cases h)))
      have RA8 := Lib.hid (show Rw 2 w8 (.slice (some ⟨b, off, none⟩) (f + g) ca) (aes (F ++ mo)) from HRA.out.below rfl hb8)
      have RK8 := Lib.hid (show Rw 2 w8 (.slice qk (f + g) ck) (aes (askE (F ++ mo))) from Rw.of_owns (aes_two _) (by decide) hok)
      have RM8 := Lib.hid (show Rw 2 w8 (.slice (some ⟨b, off + f * 2, none⟩) g (ca - f)) (aes mo) from by
        have h := RA8.out.part f (f + g) (ca - f) (by omega) (Nat.le_refl _) (by omega) (by omega)
        rw [show f + g - f = g by omega] at h
        have e : ((aes (F ++ mo)).drop f).take g = aes mo := by
          unfold aes
          rw [List.map_append, List.drop_left' (by rw [List.length_map, HF.out])]
          exact List.take_of_length_le (by rw [List.length_map, HG.out]; exact Nat.le_refl _)
        rw [e] at h
        exact h)
      have hlk : (askE (F ++ mo)).length = f + g := by rw [askE_len, List.length_append, HF.out, HG.out]
      obtain ⟨L1, L2, L3, t1, t2, t3, hdel, ⟨σa, hra⟩, ⟨σb, hrb⟩⟩ := back_runs F mo (askE (F ++ mo)) HDK.out (by rw [HF.out]; omega) (by rw [HF.out]; omega) (by rw [HG.out]; omega) (by rw [HG.out]; omega) (by rw [hlk]; omega) (by rw [hlk]; omega)
      have HRUN1 := Lib.hid (avrun_any _ _ σa (.slice (some ⟨w8.heap.size, 0, none⟩) 2 2) [[.int .i64 1, .int .i64 0, .slice qf f cf], [.int .i64 3, .int .i64 1, .slice qk (f + g) ck]] (w8.alloc (.cells #[.int .i64 1, .int .i64 0, .slice qf f cf, .int .i64 3, .int .i64 1, .slice qk (f + g) ck] 32)) (rwNew w8 _ _ _ (by simp) rfl 2 rfl (by decide)) (asteps_cons (asteps_cons (asteps_nil _) 3 1 _ _ (Rw.alloc' RK8.out _)) 1 0 _ _ (Rw.alloc' RF8.out _)) hra (by simp) (fun ⟨s, hs, h2⟩ => by simp at hs; rcases hs with rfl | rfl <;> simp at h2) avsaid_any)
      have T1 := Lib.hid t1
      have T2 := Lib.hid t2
      have T3 := Lib.hid t3
      have HDEL := Lib.hid hdel
      have HRB := Lib.hid hrb
      clear hok hb8 t1 t2 t3 hdel hra hrb HOF7 HOA hlk
      go_wp2_with fail
      refine HRUN1.out.mono ?_
      rintro e w9 ⟨qo, co, rows1, rfl, ho9, h39, hl9, hsa9, hb9⟩
      simp only [List.length_cons, List.length_nil, Nat.zero_add, Nat.reduceAdd] at ho9 hl9 ⊢
      have hb89 : Below w8.heap.size w8 w9 := ((Below.refl w8.heap.size w8).alloc (Nat.le_refl _) _).trans (hb9.mono (by rw [World.size_alloc]; omega))
      have HBW9 := Lib.hid (HBW8.out.trans (hb89.mono HBW8.out.size))
      have RF9 := Lib.hid (RF8.out.below rfl hb89)
      have RA9 := Lib.hid (RA8.out.below rfl hb89)
      have RK9 := Lib.hid (RK8.out.below rfl hb89)
      have RM9 := Lib.hid (RM8.out.below rfl hb89)
      have HO9 := Lib.hid ho9
      have H39 := Lib.hid h39
      have HL9 := Lib.hid hl9
      have HSA9 := Lib.hid hsa9
      clear ho9 h39 hl9 hsa9 hb9 hb89 RF8 RA8 RK8 RM8 HBW8 HRUN1 HBW7 HRA
      have HRUN2 := Lib.hid (avrun_any _ _ σb (.slice (some ⟨w9.heap.size, 0, none⟩) 5 5) [[.int .i64 1, .int .i64 0, .slice qf f cf], [.int .i64 1, .int .i64 1, .slice (some ⟨b, off + f * 2, none⟩) g (ca - f)], [.int .i64 3, .int .i64 2, .slice qk (f + g) ck], [.int .i64 2, .int .i64 2, .slice (some ⟨b, off + f * 2, none⟩) g (ca - f)], [.int .i64 3, .int .i64 3, .slice qk (f + g) ck]]
        (w9.alloc (.cells #[.int .i64 1, .int .i64 0, .slice qf f cf, .int .i64 1, .int .i64 1, .slice (some ⟨b, off + f * 2, none⟩) g (ca - f), .int .i64 3, .int .i64 2, .slice qk (f + g) ck, .int .i64 2, .int .i64 2, .slice (some ⟨b, off + f * 2, none⟩) g (ca - f), .int .i64 3, .int .i64 3, .slice qk (f + g) ck] 32))
        (rwNew w9 _ _ _ (by simp) rfl 5 rfl (by decide)) (asteps_cons (asteps_cons (asteps_cons (asteps_cons (asteps_cons (asteps_nil _) 3 3 _ _ (Rw.alloc' RK9.out _)) 2 2 _ _ (Rw.alloc' RM9.out _)) 3 2 _ _ (Rw.alloc' RK9.out _)) 1 1 _ _ (Rw.alloc' RM9.out _)) 1 0 _ _ (Rw.alloc' RF9.out _)) HRB.out (by simp) (fun _ => deletes_any) avsaid_any)
      go_wp2_with fail
      refine HRUN2.out.mono ?_
      rintro e w10 ⟨qp, cp, rows2, rfl, ho10, h310, hl10, hsa10, hb10⟩
      simp only [List.length_cons, List.length_nil, Nat.zero_add, Nat.reduceAdd] at ho10 hl10 ⊢
      have hb910 : Below w9.heap.size w9 w10 := ((Below.refl w9.heap.size w9).alloc (Nat.le_refl _) _).trans (hb10.mono (by rw [World.size_alloc]; omega))
      have HBW10 := Lib.hid (HBW9.out.trans (hb910.mono HBW9.out.size))
      have RA10 := Lib.hid (RA9.out.below rfl hb910)
      have RM10 := Lib.hid (RM9.out.below rfl hb910)
      have HO9' := Lib.hid ((Fr.of_below [] hb910).own HO9.out (fun _ _ h => by cases h))
      have HSA9' := Lib.hid (HSA9.out.below hb910)
      have HO10 := Lib.hid ho10
      have H310 := Lib.hid h310
      have HL10 := Lib.hid hl10
      have HSA10 := Lib.hid hsa10
      clear ho10 h310 hl10 hsa10 hb10 hb910 RF9 RA9 RK9 RM9 HBW9 HRUN2 HO9 HSA9
      obtain ⟨r0, r1, rfl⟩ : ∃ a b, rows1 = [a, b] := by
        have h := HL9.out
        match rows1, h with
        | [a, b], _ => exact ⟨a, b, rfl⟩
      obtain ⟨s0, s1, s2, s3, s4, rfl⟩ : ∃ a b c d e, rows2 = [a, b, c, d, e] := by
        have h := HL10.out
        match rows2, h with
        | [a, b, c, d, e], _ => exact ⟨a, b, c, d, e, rfl⟩
      obtain ⟨p1, c1', p2, c2', hr1, hp1, hp2⟩ := HSA9'.out.2 1 r1 _ rfl rfl
      obtain ⟨u1, d1, u2, d2, hs2, hu1, -⟩ := HSA10.out.2 2 s2 _ rfl rfl
      obtain ⟨x1, e1', x2, e2, hs3, hx1, -⟩ := HSA10.out.2 3 s3 _ rfl rfl
      obtain ⟨y1, f1, y2, f2, hs4, hy1, hy2⟩ := HSA10.out.2 4 s4 _ rfl rfl
      have o2 : getOs L2 (askE (F ++ mo)) = (F ++ mo).map some := getOs_all T2.out HDK.out
      have o3 : delOs L2 mo = mo.map some := HDEL.out
      have o4 : getOs L3 (askE (F ++ mo)) = getOs L1 (askE (F ++ mo)) := getOs_eq T3.out T1.out _
      have n1 : L1.length = f := by rw [← T1.out.len, HF.out]
      have n2 : L2.length = f + g := by rw [← T2.out.len, List.length_append, HF.out, HG.out]
      have n3 : L3.length = f := by rw [← T3.out.len, HF.out]
      have n5 : (getOs L1 (askE (F ++ mo))).length = f + g := by rw [getOs_len, askE_len, List.length_append, HF.out, HG.out]
      obtain ⟨O, hO⟩ : ∃ O, getOs L1 (askE (F ++ mo)) = O := ⟨_, rfl⟩
      dsimp only at hr1 hp1 hp2 hs2 hu1 hs3 hx1 hs4 hy1 hy2
      rw [hO] at o4 n5
      rw [n1, hO, n5] at hr1
      rw [hO, n5] at hp1 hp2
      rw [n2, o2, List.length_map, List.length_append, HF.out, HG.out] at hs2
      rw [o2, List.length_map, List.length_append, HF.out, HG.out, map_get] at hu1
      rw [n3, o3, List.length_map, HG.out] at hs3
      rw [o3, List.length_map, HG.out, map_get] at hx1
      rw [n3, o4, n5] at hs4
      rw [o4, n5] at hy1 hy2
      subst hr1 hs2 hs3 hs4
      have RR1 := Rw.of_owns H39.out (by decide) HO9'.out
      have RR2 := Rw.of_owns H310.out (by decide) HO10.out
      obtain ⟨_, _, _, e1, -, -, -, hr1⟩ := RR1
      injection e1 with e1 e2' e3
      subst e1 e2' e3
      obtain ⟨bo, oo, rfl, hc1⟩ := hr1 (by decide)
      obtain ⟨_, _, _, e4, -, -, -, hr2⟩ := RR2
      injection e4 with e4 e5 e6
      subst e4 e5 e6
      obtain ⟨bp, op, rfl, hc2⟩ := hr2 (by decide)
      have X0 := hc1 1 _ rfl 0 _ rfl
      have X1 := hc1 1 _ rfl 1 _ rfl
      have X2 := hc1 1 _ rfl 2 _ rfl
      have Y0 := hc2 2 _ rfl 0 _ rfl
      have Y1 := hc2 2 _ rfl 1 _ rfl
      have Z1 := hc2 3 _ rfl 1 _ rfl
      have V0 := hc2 4 _ rfl 0 _ rfl
      have V1 := hc2 4 _ rfl 1 _ rfl
      have V2 := hc2 4 _ rfl 2 _ rfl
      have E1 := Lib.hid (fun wx (hb : Below w10.heap.size w10 wx) => eqent_same (.slice u1 (f + g) d1) (.slice (some ⟨b, off, none⟩) (f + g) ca) (F ++ mo) wx ((Rw.of_owns (aes_two _) (by decide) hu1).below rfl hb) (RA10.out.below rfl hb) (by rw [List.length_append, HF.out, HG.out]; omega))
      have E2 := Lib.hid (fun wx (hb : Below w10.heap.size w10 wx) => eqent_same (.slice x1 g e1') (.slice (some ⟨b, off + f * 2, none⟩) g (ca - f)) mo wx ((Rw.of_owns (aes_two _) (by decide) hx1).below rfl hb) (RM10.out.below rfl hb) (by rw [HG.out]; omega))
      have E3 := Lib.hid (fun wx (hb : Below w10.heap.size w10 wx) => avsame_same (f : Int) p1 p2 y1 y2 (f + g) c1' (f + g) c2' (f + g) f1 (f + g) f2 (O.map oget) (O.map Option.isSome) wx ((Rw.of_owns (aes_two _) (by decide) hp1).below rfl hb) ((Rw.of_owns (aes_two _) (by decide) hy1).below rfl hb) ((Sl.of_owns hp2).below rfl hb) ((Sl.of_owns hy2).below rfl hb) (by rw [List.length_map, n5]; omega) (by rw [List.length_map, n5]; omega))
      clear hr1 hr2 hc1 hc2 hp1 hp2 hu1 hx1 hy1 hy2 o2 o3 o4 n1 n2 n3 n5 hO RA10 RM10 HO9' HSA9' HO10 HSA10 H39 H310 HL9 HL10 HRB T1 T2 T3 HDEL
      go_wp2_with fail
      have XX0 := Lib.hid (show w10.cell? ⟨bo, oo + 3, none⟩ = some (.int .i64 (f : Int)) from X0)
      have XX1 := Lib.hid (show w10.cell? ⟨bo, oo + 4, none⟩ = some (.slice p1 (f + g) c1') from X1)
      have XX2 := Lib.hid (show w10.cell? ⟨bo, oo + 5, none⟩ = some (.slice p2 (f + g) c2') from X2)
      have XY1 := Lib.hid (show w10.cell? ⟨bp, op + 7, none⟩ = some (.slice u1 (f + g) d1) from Y1)
      have XZ1 := Lib.hid (show w10.cell? ⟨bp, op + 10, none⟩ = some (.slice x1 g e1') from Z1)
      have XV0 := Lib.hid (show w10.cell? ⟨bp, op + 12, none⟩ = some (.int .i64 (f : Int)) from V0)
      have XV1 := Lib.hid (show w10.cell? ⟨bp, op + 13, none⟩ = some (.slice y1 (f + g) f1) from V1)
      have XV2 := Lib.hid (show w10.cell? ⟨bp, op + 14, none⟩ = some (.slice y2 (f + g) f2) from V2)
      clear X0 X1 X2 Y0 Y1 Z1 V0 V1 V2
      have hbself := Below.refl w10.heap.size w10
      go_region_held3 (fun w' => Below w10.heap.size w10 w' ∧ w'.cell? ⟨bo, oo + 3, none⟩ = some (.int .i64 (f : Int)) ∧ w'.cell? ⟨bo, oo + 4, none⟩ = some (.slice p1 (f + g) c1') ∧ w'.cell? ⟨bo, oo + 5, none⟩ = some (.slice p2 (f + g) c2') ∧ w'.cell? ⟨bp, op + 7, none⟩ = some (.slice u1 (f + g) d1) ∧ w'.cell? ⟨bp, op + 10, none⟩ = some (.slice x1 g e1') ∧ w'.cell? ⟨bp, op + 12, none⟩ = some (.int .i64 (f : Int)) ∧ w'.cell? ⟨bp, op + 13, none⟩ = some (.slice y1 (f + g) f1) ∧ w'.cell? ⟨bp, op + 14, none⟩ = some (.slice y2 (f + g) f2))
        ((first | exact ⟨hbself.drew, XX0.out, XX1.out, XX2.out, XY1.out, XZ1.out, XV0.out, XV1.out, XV2.out⟩ | exact ⟨hbC, CX0, CX1, CX2, CY1, CZ1, CV0, CV1, CV2⟩ | exact ⟨hbB, BX0, BX1, BX2, BY1, BZ1, BV0, BV1, BV2⟩ | exact ⟨hbA, AX0, AX1, AX2, AY1, AZ1, AV0, AV1, AV2⟩))
        ((first
          | (go_at_call 9; (with_reducible refine Calls.mono (E1.out _ ?_) ?_); with_reducible exact hbself.drew; rintro e w1A ⟨rfl, hbA0⟩; have hbA : Below w10.heap.size w10 w1A := Below.trans hbself.drew (hbA0.mono hbself.drew.size); have AX0 := (hbA.cell (World.block_lt_of_cell? w10 _ XX0.out)).trans XX0.out; have AX1 := (hbA.cell (World.block_lt_of_cell? w10 _ XX1.out)).trans XX1.out; have AX2 := (hbA.cell (World.block_lt_of_cell? w10 _ XX2.out)).trans XX2.out; have AY1 := (hbA.cell (World.block_lt_of_cell? w10 _ XY1.out)).trans XY1.out; have AZ1 := (hbA.cell (World.block_lt_of_cell? w10 _ XZ1.out)).trans XZ1.out; have AV0 := (hbA.cell (World.block_lt_of_cell? w10 _ XV0.out)).trans XV0.out; have AV1 := (hbA.cell (World.block_lt_of_cell? w10 _ XV1.out)).trans XV1.out; have AV2 := (hbA.cell (World.block_lt_of_cell? w10 _ XV2.out)).trans XV2.out; clear hbA0)
          | (go_at_call 9; (with_reducible refine Calls.mono (E2.out _ ?_) ?_); with_reducible exact hbA; rintro e w1B ⟨rfl, hbB0⟩; have hbB := hbA.trans (hbB0.mono hbA.size); have BX0 := (hbB.cell (World.block_lt_of_cell? w10 _ XX0.out)).trans XX0.out; have BX1 := (hbB.cell (World.block_lt_of_cell? w10 _ XX1.out)).trans XX1.out; have BX2 := (hbB.cell (World.block_lt_of_cell? w10 _ XX2.out)).trans XX2.out; have BY1 := (hbB.cell (World.block_lt_of_cell? w10 _ XY1.out)).trans XY1.out; have BZ1 := (hbB.cell (World.block_lt_of_cell? w10 _ XZ1.out)).trans XZ1.out; have BV0 := (hbB.cell (World.block_lt_of_cell? w10 _ XV0.out)).trans XV0.out; have BV1 := (hbB.cell (World.block_lt_of_cell? w10 _ XV1.out)).trans XV1.out; have BV2 := (hbB.cell (World.block_lt_of_cell? w10 _ XV2.out)).trans XV2.out; clear hbB0)
          | (go_at_call 10; (with_reducible refine Calls.mono (E3.out _ ?_) ?_); with_reducible exact hbB; rintro e w1C ⟨rfl, hbC0⟩; have hbC := hbB.trans (hbC0.mono hbB.size); have CX0 := (hbC.cell (World.block_lt_of_cell? w10 _ XX0.out)).trans XX0.out; have CX1 := (hbC.cell (World.block_lt_of_cell? w10 _ XX1.out)).trans XX1.out; have CX2 := (hbC.cell (World.block_lt_of_cell? w10 _ XX2.out)).trans XX2.out; have CY1 := (hbC.cell (World.block_lt_of_cell? w10 _ XY1.out)).trans XY1.out; have CZ1 := (hbC.cell (World.block_lt_of_cell? w10 _ XZ1.out)).trans XZ1.out; have CV0 := (hbC.cell (World.block_lt_of_cell? w10 _ XV0.out)).trans XV0.out; have CV1 := (hbC.cell (World.block_lt_of_cell? w10 _ XV1.out)).trans XV1.out; have CV2 := (hbC.cell (World.block_lt_of_cell? w10 _ XV2.out)).trans XV2.out; clear hbC0)
          | fail))
      have HEND := Lib.hid (HBW10.out.trans (hbC.mono HBW10.out.size))
      clear AX0 AX1 AX2 AY1 AZ1 AV0 AV1 AV2 BX0 BX1 BX2 BY1 BZ1 BV0 BV1 BV2 CX0 CX1 CX2 CY1 CZ1 CV0 CV1 CV2
      go_wp2_with fail
      go_ret
      exact ⟨rfl, HEND.out⟩
end Go.Proofs.Ytidekgmpbcnfmaa
