/- Walk of (*SimpleGraph).AddEdge. -/
import Derived.Test.YtdmkijdokmnicaaDoorGrWalk
import Derived.Outline
namespace Go.Proofs.YtdmkijdokmnicaaDoor
set_option linter.unusedVariables false
open Go.RowKit

def AddE (Z s b : Nat) (V : List Int) (E : List Gr.Ed) (v : Value) (w : World) (e : Ending) (w' : World) : Prop := ∃ f', e = .returned v ∧ GrAt w' Z s b f' V E ∧ Below Z w w' ∧ KeepC s w w'
theorem ended {e : Ending} {v : Value} (h : e = .returned v) : True := trivial

set_option maxHeartbeats 1000000 in
theorem gedge_loop (w : World) (Z s b : Nat) (f : Int → Nat) (V : List Int) (E : List Gr.Ed) (x : Int) (a : Addr) (h : GrAt w Z s b f V E) (hZ : Z ≤ w.heap.size) (hc : w.cell? ⟨1, 0, none⟩ = some (.iface 67 (.pointer (some a)))) :
    Calls Tryd.prog 25 #[.pointer (some ⟨s, 0, none⟩), .iface 3 (.int .i64 x), .iface 3 (.int .i64 x)] w (AddE Z s b V E (.iface 67 (.pointer (some a))) w) := by
  have HG := Lib.hid h
  have he := eq_if w x x
  rw [show (x == x) = true by simp] at he
  clear h
  go_enter Tryd.func25, Tryd.ntmps25
  go_wp2_with fail
  go_ret
  exact ⟨f, rfl, HG.out, Below.refl _ _, KeepC.refl _ _⟩

/-- the two vertices of an edge -/
theorem adj_no {V : List Int} {E : List Gr.Ed} (hok : Gr.Ok (V, E)) (x y : Int) (hy : y ∉ Gr.add1 V x) : Gr.adj E y = [] := Gr.not_adj hok (fun h => hy (Gr.add1_mem.2 (.inl h)))

set_option maxHeartbeats 2000000 in
theorem gedge_par (w : World) (Z s b : Nat) (f : Int → Nat) (V : List Int) (E : List Gr.Ed) (x y : Int) (a0 a1 a2 : Addr) (h : GrAt w Z s b f V E) (hZ : Z ≤ w.heap.size) (hok : Gr.Ok (V, E)) (h9 : V.length ≤ 1000) (hSn : ∀ w', Below Z w w' → Sn w' a0 a1 a2) (hne : x ≠ y) (hj : Gr.joined E x y) :
    Calls Tryd.prog 25 #[.pointer (some ⟨s, 0, none⟩), .iface 3 (.int .i64 x), .iface 3 (.int .i64 y)] w (AddE Z s b V E (.iface 67 (.pointer (some a2))) w) := by
  have he := eq_if w x y
  rw [show (x == y) = false by simpa using hne] at he
  have hx : x ∈ V ∧ y ∈ V := by
    rcases hj with hj | hj
    · exact (hok.2.1 _ hj).2
    · exact (hok.2.1 _ hj).2.symm
  have hc1 := gaddv_old w Z s b f V E x h hZ hx.1
  have HC1 := Lib.hid hc1
  have HC2 := Lib.hid (fun w1 f1 h1 h2 => gaddv_old w1 Z s b f1 V E y h1 h2 hx.2)
  have HX := Lib.hid hx
  have HJ := Lib.hid hj
  have HSN := Lib.hid hSn
  clear h hc1 hx hj hSn hok
  go_enter Tryd.func25, Tryd.ntmps25
  go_wp2_with fail
  refine HC1.out.mono ?_
  rintro e w1 ⟨f1, rfl, hg1, hb1, hk1⟩
  have HG1 := Lib.hid hg1
  have HB1 := Lib.hid hb1
  have HK1 := Lib.hid hk1
  clear hg1 hb1 hk1
  go_wp2_with fail
  refine (HC2.out w1 f1 HG1.out (Nat.le_trans hZ HB1.out.size)).mono ?_
  rintro e w2 ⟨f2, rfl, hg2, hb2, hk2⟩
  have c0 : w2.cell? ⟨s, 0, none⟩ = some (.map (some b)) := hg2.blk.cell 0 rfl
  have HB := Lib.hid (HB1.out.trans hb2)
  have HK := Lib.hid (HK1.out.trans hk2)
  clear hk2
  have hq : Vm.get x (gl f2 V) = some (.map (some (f2 x))) := by rw [gl_get, if_pos HX.out.1]
  have hq2 : Vm.get y (setl (Gr.adj E x)) = some (.agg #[]) := by rw [setl_get, if_pos ((Gr.mem_adj E x y).2 HJ.out)]
  have HQ := Lib.hid hq
  have HQ2 := Lib.hid hq2
  have HG2 := Lib.hid hg2
  have hsn : ∀ w', Below Z w2 w' → w'.cell? ⟨2, 0, none⟩ = some (.iface 67 (.pointer (some a2))) := fun w' hb => (HSN.out w' (HB.out.trans hb)).c2
  have s1 := hsn (w2.alloc (.cells #[] 65)) ((Below.refl _ _).alloc (Nat.le_trans hZ HB.out.size) _)
  clear hg2 hb2 hq hq2 hsn HB1 HC1 HC2
  go_wp2_with (first
    | (at_lookup; refine wpList_vlook _ rfl _ _ 60 rfl 20 59 KIF Tryd.underlying60 (zero_map _) b _ rfl HG2.out.out x rfl _ HQ.out ?_)
    | (at_lookup; refine wpList_vlook_ok _ rfl _ _ 59 rfl 20 65 KIF Tryd.underlying59 (zero_unit _) (f2 x) _ rfl (HG2.out.inn x HX.out.1) y rfl _ HQ2.out ?_))
  go_ret
  exact ⟨f2, rfl, HG2.out.below ((Below.refl _ _).alloc (Nat.le_refl _) _), HB.out.alloc (Nat.le_trans hZ HB.out.size) _, HK.out.alloc _⟩

set_option maxHeartbeats 4000000 in
theorem gedge_new (w : World) (Z s b : Nat) (f : Int → Nat) (V : List Int) (E : List Gr.Ed) (x y : Int) (h : GrAt w Z s b f V E) (hZ : Z ≤ w.heap.size) (hok : Gr.Ok (V, E)) (h9 : V.length ≤ 1000) (h8 : E.length ≤ 1000) (hne : x ≠ y) (hj : ¬ Gr.joined E x y) :
    Calls Tryd.prog 25 #[.pointer (some ⟨s, 0, none⟩), .iface 3 (.int .i64 x), .iface 3 (.int .i64 y)] w (AddE Z s b (Gr.add1 (Gr.add1 V x) y) (E ++ [(x, y)]) .nilIface w) := by
  have he := eq_if w x y
  rw [show (x == y) = false by simpa using hne] at he
  have HC1 := Lib.hid (gaddv_any w Z s b f V E x h hZ (fun hn => Gr.not_adj hok hn) (by omega))
  have HC2 := Lib.hid (fun w1 f1 h1 h2 => gaddv_any w1 Z s b f1 (Gr.add1 V x) E y h1 h2 (fun hn => adj_no hok x y hn) (by have := @Gr.add1_len V x; omega))
  obtain ⟨V2, hV2⟩ : ∃ V2, Gr.add1 (Gr.add1 V x) y = V2 := ⟨_, rfl⟩
  rw [hV2] at HC2 ⊢
  have hx : x ∈ V2 ∧ y ∈ V2 := by
    rw [← hV2]
    exact ⟨Gr.add1_mem.2 (.inl (Gr.add1_mem.2 (.inr rfl))), Gr.add1_mem.2 (.inr rfl)⟩
  have HX := Lib.hid hx
  have HJ := Lib.hid hj
  have HNE := Lib.hid hne
  have hln : (E.length : Int) ≤ 1000 := by omega
  clear h hx hj hok h9 hV2 hne h8
  go_enter Tryd.func25, Tryd.ntmps25
  go_wp2_with fail
  refine HC1.out.mono ?_
  rintro e w1 ⟨f1, rfl, hg1, hb1, hk1⟩
  have HG1 := Lib.hid hg1
  have HB1 := Lib.hid hb1
  have HK1 := Lib.hid hk1
  clear hg1 hb1 hk1
  go_wp2_with fail
  refine (HC2.out w1 f1 HG1.out (Nat.le_trans hZ HB1.out.size)).mono ?_
  rintro e w2 ⟨f2, rfl, hg2, hb2, hk2⟩
  have c0 : w2.cell? ⟨s, 0, none⟩ = some (.map (some b)) := hg2.blk.cell 0 rfl
  have HB := Lib.hid (HB1.out.trans hb2)
  have HK := Lib.hid (HK1.out.trans hk2)
  clear hk2
  have hq : Vm.get x (gl f2 V2) = some (.map (some (f2 x))) := by rw [gl_get, if_pos HX.out.1]
  have hqy : Vm.get y (gl f2 V2) = some (.map (some (f2 y))) := by rw [gl_get, if_pos HX.out.2]
  have hq2 : Vm.get y (setl (Gr.adj E x)) = none := by rw [setl_get, if_neg (fun h => HJ.out ((Gr.mem_adj E x y).1 h))]
  have hp1 : Vm.put y (.agg #[]) (setl (Gr.adj E x)) = setl (Gr.adj E x ++ [y]) := by rw [setl_put, if_neg (fun h => HJ.out ((Gr.mem_adj E x y).1 h))]
  have hp2 : Vm.put x (.agg #[]) (setl (Gr.adj E y)) = setl (Gr.adj E y ++ [x]) := by rw [setl_put, if_neg (fun h => HJ.out (Gr.joined_comm.1 ((Gr.mem_adj E y x).1 h)))]
  have HQ := Lib.hid hq
  have HQY := Lib.hid hqy
  have HQ2 := Lib.hid hq2
  have HP1 := Lib.hid hp1
  have HP2 := Lib.hid hp2
  have HG2 := Lib.hid hg2
  have hsb : w2.heap.size ≤ w2.heap.size := Nat.le_refl _
  have HG3 := Lib.hid (hg2.below ((Below.refl _ _).alloc (Nat.le_refl _) (.cells #[] 65)))
  have HFXY : Hid (f2 x ≠ f2 y) := Lib.hid (fun e => HNE.out (hg2.inj x HX.out.1 y HX.out.2 e))
  have hs2 := HG2.out.blk.lt
  clear hg2 hb2 hq hqy hq2 hp1 hp2 HB1 HC1 HC2 hsb
  go_wp2_with (first
    | (at_lookup; refine wpList_vlook _ rfl _ _ 60 rfl 20 59 KIF Tryd.underlying60 (zero_map _) b _ rfl HG2.out.out x rfl _ HQ.out ?_)
    | (at_lookup; refine wpList_vlook_ok _ rfl _ _ 59 rfl 20 65 KIF Tryd.underlying59 (zero_unit _) (f2 x) _ rfl (HG2.out.inn x HX.out.1) y rfl _ HQ2.out ?_)
    | (at_lookup; refine wpList_vlook _ rfl _ _ 60 rfl 20 59 KIF Tryd.underlying60 (zero_map _) b _ rfl HG3.out.out x rfl _ HQ.out ?_)
    | (at_mapUpdate; refine wpList_vput _ rfl _ _ _ 59 rfl 20 65 KIF Tryd.underlying59 (f2 x) _ rfl (HG3.out.inn x HX.out.1) y rfl (.agg #[]) rfl ?_; intro w3 hvm ht1; rw [HP1.out] at hvm; have d0 : w3.cell? ⟨s, 0, none⟩ = some (.map (some b)) := (HG3.out.blk.grown ht1.grown (fun e => (HG3.out.apart x HX.out.1).2 (by injection e))).cell 0 rfl; have HVM := Lib.hid hvm; have HT1 := Lib.hid ht1; clear hvm ht1)
    | (at_lookup; refine wpList_vlook _ rfl _ _ 60 rfl 20 59 KIF Tryd.underlying60 (zero_map _) b _ rfl (HG3.out.out.turned HT1.out (fun e => (HG3.out.apart x HX.out.1).1 e.symm)) y rfl _ HQY.out ?_)
    | (at_mapUpdate; refine wpList_vput _ rfl _ _ _ 59 rfl 20 65 KIF Tryd.underlying59 (f2 y) _ rfl ((HG3.out.inn y HX.out.2).turned HT1.out (fun e => HFXY.out e.symm)) x rfl (.agg #[]) rfl ?_; intro w4 hvm ht1; rw [HP2.out] at hvm; have hbk := (HG3.out.blk.grown HT1.out.grown (fun e => (HG3.out.apart x HX.out.1).2 (by injection e))).grown ht1.grown (fun e => (HG3.out.apart y HX.out.2).2 (by injection e)); have d2 : w4.cell? ⟨s, 2, none⟩ = some (.int .i64 (E.length : Int)) := hbk.cell 2 rfl; have d3 := hbk.free 2; have HVM4 := Lib.hid hvm; have HT4 := Lib.hid ht1; have HBK := Lib.hid hbk; clear hvm ht1 hbk))
  go_ret
  have hz2 : Z ≤ (w2.alloc (.cells #[] 65)).heap.size := by have := HB.out.size; simp; omega
  have hb3 : Below Z w w3 := (HB.out.alloc (Nat.le_trans hZ HB.out.size) _).grown HT1.out.grown hz2 (fun k hk => by injection hk with hk; rw [← hk]; exact HG2.out.zf x HX.out.1)
  have hz3 : Z ≤ w3.heap.size := Nat.le_trans hZ hb3.size
  have hb4 : Below Z w w4 := hb3.grown HT4.out.grown hz3 (fun k hk => by injection hk with hk; rw [← hk]; exact HG2.out.zf y HX.out.2)
  refine ⟨f2, rfl, ⟨?_, ?_, ?_, HG2.out.sb, HG2.out.apart, HG2.out.inj, HG2.out.nd, HG2.out.zs, HG2.out.zb, HG2.out.zf⟩, hb4.setCell HG2.out.zs _, (((HK.out.alloc _).turned HT1.out).turned HT4.out).setCell _⟩
  · have := HBK.out.set 2 (.int .i64 (E.length + 1 : Int))
    simpa using this
  · exact ((HG3.out.out.turned HT1.out (fun e => (HG3.out.apart x HX.out.1).1 e.symm)).turned HT4.out (fun e => (HG3.out.apart y HX.out.2).1 e.symm)).setCell (Ne.symm HG2.out.sb) _
  · intro z hz
    refine VMap.setCell ?_ (HG2.out.apart z hz).2 _
    rw [Gr.adj_snoc]
    by_cases h1 : x = z
    · subst h1
      simp only [if_true]
      exact HVM.out.turned HT4.out HFXY.out
    · simp only [h1, if_false]
      by_cases h2 : y = z
      · subst h2
        simp only [if_true]
        exact HVM4.out
      · simp only [h2, if_false, List.append_nil]
        exact ((HG3.out.inn z hz).turned HT1.out (fun e => h1 (HG2.out.inj z hz x HX.out.1 e).symm)).turned HT4.out (fun e => h2 (HG2.out.inj z hz y HX.out.2 e).symm)

theorem gedge_any (w : World) (Z s b : Nat) (f : Int → Nat) (g : Gr.St) (x y : Int) (a0 a1 a2 : Addr) (h : GrAt w Z s b f g.1 g.2) (hZ : Z ≤ w.heap.size) (hok : Gr.Ok g) (h9 : g.1.length ≤ 1000) (h8 : g.2.length ≤ 1000) (hSn : ∀ w', Below Z w w' → Sn w' a0 a1 a2) :
    Calls Tryd.prog 25 #[.pointer (some ⟨s, 0, none⟩), .iface 3 (.int .i64 x), .iface 3 (.int .i64 y)] w (AddE Z s b (Gr.step g (x, y)).1 (Gr.step g (x, y)).2 (errv a0 a1 a2 (Gr.err g (x, y))) w) := by
  by_cases hxy : x = y
  · subst hxy
    have e1 : Gr.step g (x, x) = g := by simp [Gr.step]
    have e2 : Gr.err g (x, x) = 2 := by simp [Gr.err]
    rw [e1, e2]
    exact gedge_loop w Z s b f g.1 g.2 x a1 h hZ (hSn w (Below.refl _ _)).c1
  · by_cases hj : Gr.joined g.2 x y
    · have e1 : Gr.step g (x, y) = g := by simp [Gr.step, hxy, hj]
      have e2 : Gr.err g (x, y) = 3 := by simp [Gr.err, hxy, hj]
      rw [e1, e2]
      exact gedge_par w Z s b f g.1 g.2 x y a0 a1 a2 h hZ hok h9 hSn hxy hj
    · have e1 : Gr.step g (x, y) = (Gr.add1 (Gr.add1 g.1 x) y, g.2 ++ [(x, y)]) := by simp [Gr.step, hxy, hj]
      have e2 : Gr.err g (x, y) = 0 := by simp [Gr.err, hxy, hj]
      rw [e1, e2]
      exact gedge_new w Z s b f g.1 g.2 x y h hZ hok h9 h8 hxy hj
end Go.Proofs.YtdmkijdokmnicaaDoor
