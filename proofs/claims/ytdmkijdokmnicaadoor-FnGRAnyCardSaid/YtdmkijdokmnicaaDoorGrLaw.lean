/- FnGRAdj. -/
import Derived.Test.YtdmkijdokmnicaaDoorGrSAdj
import Derived.Test.YtdmkijdokmnicaaDoorOpenRow
namespace Go.Proofs.YtdmkijdokmnicaaDoor
set_option linter.unusedVariables false
open Go.RowKit

theorem Sl.slice {w : World} {v : Value} {vs : List Value} (h : Sl w v vs) : ∃ a n c, v = .slice a n c := by
  obtain ⟨a, n, c, h, _⟩ := h
  exact ⟨a, n, c, h⟩
theorem EsAt.slice {w : World} {v : Value} {E : List Gr.Ed} (h : EsAt w v E) : ∃ a n c, v = .slice a n c := by
  rcases h with ⟨h, _⟩ | ⟨g, o, n, c, h, _⟩ <;> exact ⟨_, _, _, h⟩
theorem exists_map {α β : Type} {f : α → β} {p : α → Prop} : ∀ (l : List β), (∀ b ∈ l, ∃ a, p a ∧ b = f a) → ∃ l' : List α, l = l'.map f ∧ ∀ a ∈ l', p a
  | [], _ => ⟨[], rfl, by simp⟩
  | b :: r, h => by
    obtain ⟨a, ha, hb⟩ := h b (by simp)
    obtain ⟨l', h1, h2⟩ := exists_map r fun c hc => h c (List.mem_cons_of_mem _ hc)
    refine ⟨a :: l', by simp [hb, h1], fun c hc => ?_⟩
    rcases List.mem_cons.1 hc with rfl | hc
    · exact ha
    · exact h2 c hc

/-- v is a slice of edges -/
def AnyEds (w : World) (v : Value) : Prop := ∃ l : List Gr.Ed, Rw 2 w v (l.map edRow)

set_option maxRecDepth 100000 in
theorem open_eds {H : Type} {enc : TypeId × Value → H} {W : World} {v : Value} {d : DataW H} {p : List MemPlace} {r : Reach} {b0 : Nat}
    (hv : Value.okWide Tryd.prog W r b0 22 v) (h : DataW.Trod enc Tryd.prog W 0 (fun _ => true) true 22 v d p) : AnyEds W v := by
  obtain ⟨rows, h1, h2, h3⟩ := open_rows Tryd.underlying22 (S := 2) (by kernel_rfl) (by decide) hv h
  obtain ⟨l, rfl, _⟩ := exists_map (f := edRow) (p := fun _ => True) rows fun row hr => by
    have hf := (h3 row hr).field Tryd.underlying37 (by kernel_rfl) (h2 row hr)
    obtain ⟨u0, e0, r0⟩ := hf 0 _ rfl
    obtain ⟨u1, e1, r1⟩ := hf 1 _ rfl
    obtain ⟨n0, rfl, _⟩ := r0.int Tryd.underlying3
    obtain ⟨n1, rfl, _⟩ := r1.int Tryd.underlying3
    refine ⟨(n0, n1), trivial, ?_⟩
    have hl := h2 row hr
    match row, hl, e0, e1 with
    | [a, b], _, e0, e1 =>
      simp at e0 e1
      subst e0; subst e1
      rfl
  exact ⟨l, h1⟩

theorem joinedTo_mem {l : List Gr.Ed} {x y : Int} : y ∈ joinedTo (Gr.run l).1 (Gr.run l).2 x ↔ y ∈ Gr.adj (Gr.run l).2 x := by
  unfold joinedTo
  rw [List.mem_filter, Gr.mem_adj]
  simp only [Bool.and_eq_true, Bool.not_eq_true', decide_eq_false_iff_not, decide_eq_true_eq]
  have hok := Gr.ok_run l
  constructor
  · exact fun h => h.2.2
  · intro h
    refine ⟨?_, ?_, h⟩
    · rcases h with h | h
      · exact (hok.2.1 _ h).2.2
      · exact (hok.2.1 _ h).2.1
    · rintro rfl
      rcases h with h | h <;> exact (hok.2.1 _ h).1 rfl
theorem joinedTo_nodup (l : List Gr.Ed) (x : Int) : (joinedTo (Gr.run l).1 (Gr.run l).2 x).Nodup := List.filter_sublist.nodup (Gr.ok_run l).1
theorem adj_len_joined (l : List Gr.Ed) (x : Int) : (Gr.adj (Gr.run l).2 x).length = (joinedTo (Gr.run l).1 (Gr.run l).2 x).length :=
  Zs.len_same ((Gr.ok_run l).2.2.1 x) (joinedTo_nodup l x) fun y => joinedTo_mem.symm

set_option maxRecDepth 100000 in
set_option maxHeartbeats 4000000 in
theorem law_gradj (v : Value) (x : Int) (w : World) (a0 a1 a2 : Addr) (hv : AnyEds w v) (hSn : Sn w a0 a1 a2) :
    Calls Tryd.prog 3 #[v, .int .i64 x] w fun e w' => e = .returned (.bool true) ∧ Below w.heap.size w w' := by
  obtain ⟨l, hv⟩ := hv
  have HV := Lib.hid hv
  obtain ⟨a, n, cap, rfl, hla, hc, hm, hr⟩ := hv
  rw [List.length_map] at hla
  have HL := Lib.hid hla
  clear hla hc hm hr
  by_cases h1 : (2147483647 : Int) < (n : Int)
  · clear HV HL hSn
    go_enter Tryd.func3, Tryd.ntmps3
    go_wp2_with fail
    go_ret
    exact ⟨rfl, Below.refl _ _⟩
  by_cases h2 : (60 : Int) < (n : Int)
  · clear HV HL hSn
    go_enter Tryd.func3, Tryd.ntmps3
    go_wp2_with fail
    go_ret
    exact ⟨rfl, Below.refl _ _⟩
  have hl9 : l.length ≤ 100 := by rw [HL.out]; omega
  have hlen := Gr.run_len l
  have HC1 := Lib.hid (gof_any _ l w HV.out hl9)
  have HC2 := Lib.hid (fun w1 (hb : Below w.heap.size w w1) => gradj_any _ l x w1 a0 a1 a2 (HV.out.below rfl hb) hl9 (hSn.below (Nat.le_refl _) hb))
  have HC3 := Lib.hid (fun w1 (hb : Below w.heap.size w w1) => grdeg_any _ l x w1 a0 a1 a2 (HV.out.below rfl hb) hl9 (hSn.below (Nat.le_refl _) hb))
  have HLEN := Lib.hid hlen
  have HN1 := Lib.hid h1
  clear hlen hSn hl9 h1
  by_cases hx : x ∈ (Gr.run l).1
  · have hxd : decide (x ∈ (Gr.run l).1) = true := by simpa using hx
    have HX := Lib.hid hx
    have HXD := Lib.hid hxd
    clear hx hxd
    have h1 := HN1.out
    go_enter Tryd.func3, Tryd.ntmps3
    go_wp2_with fail
    refine HC1.out.mono ?_
    rintro e w1 ⟨vv, ev, u, rfl, hs1, he1, hb1⟩
    obtain ⟨pa, pn, pc, hvv⟩ := hs1.slice
    obtain ⟨qa, qn, qc, hev⟩ := he1.slice
    subst hvv
    subst hev
    have HS1 := Lib.hid hs1
    have HE1 := Lib.hid he1
    have HB1 := Lib.hid hb1
    have hbw2 : Below w.heap.size w (w1.alloc (.cells #[.slice pa pn pc, .slice qa qn qc] 25)) := hb1.alloc hb1.size _
    have HBW2 := Lib.hid hbw2
    obtain ⟨B, hB⟩ : ∃ B, B = w1.heap.size := ⟨_, rfl⟩
    have hBlk : Blk (w1.alloc (.cells #[.slice pa pn pc, .slice qa qn qc] 25)) B 25 #[.slice pa pn pc, .slice qa qn qc] := by rw [hB]; exact Blk.new w1 _ _
    have HBK := Lib.hid hBlk
    have hs2 := Sl.allocd hs1 (.cells #[.slice pa pn pc, .slice qa qn qc] 25)
    have he2 := EsAt.allocd he1 (.cells #[.slice pa pn pc, .slice qa qn qc] 25)
    have HS2 := Lib.hid hs2
    have HE2 := Lib.hid he2
    clear hs1 he1 hb1 hbw2 hBlk hs2 he2 HC1
    go_wp2_with fail
    rw [← hB]
    clear hB
    obtain ⟨w2, hw2⟩ : ∃ w2, w2 = w1.alloc (.cells #[.slice pa pn pc, .slice qa qn qc] 25) := ⟨_, rfl⟩
    rw [← hw2] at HBW2 HBK HS2 HE2 ⊢
    clear hw2
    refine (HC2.out w2 HBW2.out).mono ?_
    rintro e w3 ⟨ks, kv, rfl, hk, hss, hno, hb3⟩
    rw [if_pos HX.out]
    have HK := Lib.hid hk
    have HSS := Lib.hid hss
    have HBW3 := Lib.hid (HBW2.out.trans (hb3.mono HBW2.out.size))
    have HBK3 := Lib.hid (HBK.out.below hb3 HBK.out.lt)
    have HS3 := Lib.hid (HS2.out.next hb3)
    have HE3 := Lib.hid (HE2.out.below hb3)
    clear hk hss hno hb3 HC2
    go_wp2_with fail
    refine (HC3.out w3 HBW3.out).mono ?_
    rintro e w4 ⟨rfl, hb4⟩
    have hdeg : degOf l x = (((Gr.adj (Gr.run l).2 x).length : Int), 0) := by unfold degOf; rw [if_pos HX.out]
    rw [hdeg]
    simp only []
    have HK4 := Lib.hid (HK.out.next hb4)
    have HBW4 := Lib.hid (HBW3.out.trans (hb4.mono HBW3.out.size))
    have HBK4 := Lib.hid (HBK3.out.below hb4 HBK3.out.lt)
    have HS4 := Lib.hid (HS3.out.next hb4)
    have HE4 := Lib.hid (HE3.out.below hb4)
    have q0 : w4.cell? ⟨B, 0, none⟩ = some (.slice pa pn pc) := HBK4.out.cell 0 rfl
    have q1 : w4.cell? ⟨B, 1, none⟩ = some (.slice qa qn qc) := HBK4.out.cell 1 rfl
    have HH := Lib.hid (sthas_any (.slice pa pn pc) (Gr.run l).1 x w4 HS4.out (by have := HLEN.out.1; have := HL.out; omega))
    rw [HXD.out] at HH
    clear hb4 hdeg HC3
    go_wp2_with fail
    refine HH.out.mono ?_
    rintro e w4 ⟨rfl, rfl⟩
    have HA := Lib.hid (sadj_any (.slice pa pn pc) (.slice qa qn qc) (Gr.run l).1 (Gr.run l).2 x w4 HS4.out HE4.out (by have := HLEN.out.1; have := HL.out; omega) (by have := HLEN.out.2; have := HL.out; omega))
    go_wp2_with fail
    refine HA.out.mono ?_
    rintro e w5 ⟨wv, rfl, hwv, hb5⟩
    have hlj := adj_len_joined l x
    have HSM := Lib.hid (stsame_yes kv wv ks _ w5 (HK4.out.next hb5) hwv (by
      have h1 := Zs.len_same HSS.out.1 ((Gr.ok_run l).2.2.1 x) HSS.out.2
      have h2 := Gr.adj_len (Gr.run l).2 x
      have := HLEN.out.2
      have := HL.out
      omega) HSS.out.1 (joinedTo_nodup l x) (fun y => by rw [HSS.out.2 y, joinedTo_mem]))
    obtain ⟨wa, wn, wc, rfl, hwl, _⟩ := hwv
    rw [i64s_len, ← hlj] at hwl
    rw [hwl]
    have HBW5 := Lib.hid (HBW4.out.trans (hb5.mono HBW4.out.size))
    have hee : ((wn : Int) == (wn : Int)) = true := by simp
    clear hwl hlj hb5 HA HH
    go_wp2_with fail
    refine HSM.out.mono ?_
    rintro e w6 ⟨rfl, hb6⟩
    have HBW6 := Lib.hid (HBW5.out.trans (hb6.mono HBW5.out.size))
    clear hb6
    go_wp2_with fail
    go_ret
    exact ⟨rfl, HBW6.out⟩
  · have hxd : decide (x ∈ (Gr.run l).1) = false := by simpa using hx
    have HX := Lib.hid hx
    have HXD := Lib.hid hxd
    clear hx hxd
    have h1 := HN1.out
    go_enter Tryd.func3, Tryd.ntmps3
    go_wp2_with fail
    refine HC1.out.mono ?_
    rintro e w1 ⟨vv, ev, u, rfl, hs1, he1, hb1⟩
    obtain ⟨pa, pn, pc, hvv⟩ := hs1.slice
    obtain ⟨qa, qn, qc, hev⟩ := he1.slice
    subst hvv
    subst hev
    have HS1 := Lib.hid hs1
    have hbw2 : Below w.heap.size w (w1.alloc (.cells #[.slice pa pn pc, .slice qa qn qc] 25)) := hb1.alloc hb1.size _
    have HBW2 := Lib.hid hbw2
    obtain ⟨B, hB⟩ : ∃ B, B = w1.heap.size := ⟨_, rfl⟩
    have hBlk : Blk (w1.alloc (.cells #[.slice pa pn pc, .slice qa qn qc] 25)) B 25 #[.slice pa pn pc, .slice qa qn qc] := by rw [hB]; exact Blk.new w1 _ _
    have HBK := Lib.hid hBlk
    have hs2 := Sl.allocd hs1 (.cells #[.slice pa pn pc, .slice qa qn qc] 25)
    have HS2 := Lib.hid hs2
    clear hs1 he1 hb1 hbw2 hBlk hs2 HC1
    go_wp2_with fail
    rw [← hB]
    clear hB
    obtain ⟨w2, hw2⟩ : ∃ w2, w2 = w1.alloc (.cells #[.slice pa pn pc, .slice qa qn qc] 25) := ⟨_, rfl⟩
    rw [← hw2] at HBW2 HBK HS2 ⊢
    clear hw2
    refine (HC2.out w2 HBW2.out).mono ?_
    rintro e w3 ⟨ks, kv, rfl, hk, hss, hno, hb3⟩
    obtain rfl := hno HX.out
    obtain ⟨ka, kn, kc, rfl, hkl, _⟩ := hk
    obtain rfl : kn = 0 := hkl.symm
    rw [if_neg HX.out]
    have HBW3 := Lib.hid (HBW2.out.trans (hb3.mono HBW2.out.size))
    have HBK3 := Lib.hid (HBK.out.below hb3 HBK.out.lt)
    have HS3 := Lib.hid (HS2.out.next hb3)
    clear hss hno hb3 HC2 hkl
    go_wp2_with fail
    refine (HC3.out w3 HBW3.out).mono ?_
    rintro e w4 ⟨rfl, hb4⟩
    have hdeg : degOf l x = (0, 1) := by unfold degOf; rw [if_neg HX.out]
    rw [hdeg]
    simp only []
    have HBW4 := Lib.hid (HBW3.out.trans (hb4.mono HBW3.out.size))
    have HBK4 := Lib.hid (HBK3.out.below hb4 HBK3.out.lt)
    have HS4 := Lib.hid (HS3.out.next hb4)
    have q0 : w4.cell? ⟨B, 0, none⟩ = some (.slice pa pn pc) := HBK4.out.cell 0 rfl
    have HH := Lib.hid (sthas_any (.slice pa pn pc) (Gr.run l).1 x w4 HS4.out (by have := HLEN.out.1; have := HL.out; omega))
    rw [HXD.out] at HH
    clear hb4 hdeg HC3
    go_wp2_with fail
    refine HH.out.mono ?_
    rintro e w4 ⟨rfl, rfl⟩
    go_wp2_with fail
    go_ret
    exact ⟨rfl, HBW4.out⟩
end Go.Proofs.YtdmkijdokmnicaaDoor
