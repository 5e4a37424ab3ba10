/- Walks of (*SimpleGraph).Degree, Adj, V, E. -/
import Derived.Test.YtdmkijdokmnicaaDoorGrEdge
import Derived.BigQuiet
import Derived.Deep.QuietTactic
import Derived.WalkLawsBesides
namespace Go.Proofs.YtdmkijdokmnicaaDoor
set_option linter.unusedVariables false
open Go.RowKit


set_option maxHeartbeats 1000000 in
theorem gV_any (w : World) (Z s b : Nat) (f : Int → Nat) (V : List Int) (E : List Gr.Ed) (h : GrAt w Z s b f V E) :
    Calls Tryd.prog 21 #[.pointer (some ⟨s, 0, none⟩)] w fun e w' => e = .returned (.int .i64 (V.length : Int)) ∧ w = w' := by
  have c1 : w.cell? ⟨s, 1, none⟩ = some (.int .i64 (V.length : Int)) := h.blk.cell 1 rfl
  clear h
  go_enter Tryd.func21, Tryd.ntmps21
  go_wp2_with fail
  go_ret
  exact ⟨rfl, rfl⟩
set_option maxHeartbeats 1000000 in
theorem gE_any (w : World) (Z s b : Nat) (f : Int → Nat) (V : List Int) (E : List Gr.Ed) (h : GrAt w Z s b f V E) :
    Calls Tryd.prog 22 #[.pointer (some ⟨s, 0, none⟩)] w fun e w' => e = .returned (.int .i64 (E.length : Int)) ∧ w = w' := by
  have c1 : w.cell? ⟨s, 2, none⟩ = some (.int .i64 (E.length : Int)) := h.blk.cell 2 rfl
  clear h
  go_enter Tryd.func22, Tryd.ntmps22
  go_wp2_with fail
  go_ret
  exact ⟨rfl, rfl⟩

def DegNo (a : Addr) (w : World) (e : Ending) (w' : World) : Prop := e = .returned (.tuple #[.int .i64 0, .iface 67 (.pointer (some a))]) ∧ ∃ n, w' = w.drewN n
set_option maxHeartbeats 1000000 in
theorem gdeg_no (w : World) (Z s b : Nat) (f : Int → Nat) (V : List Int) (E : List Gr.Ed) (x : Int) (a : Addr) (h : GrAt w Z s b f V E) (hc : w.cell? ⟨0, 0, none⟩ = some (.iface 67 (.pointer (some a)))) (hx : x ∉ V) :
    Calls Tryd.prog 17 #[.pointer (some ⟨s, 0, none⟩), .iface 3 (.int .i64 x)] w (DegNo a w) := by
  have c0 : w.cell? ⟨s, 0, none⟩ = some (.map (some b)) := h.blk.cell 0 rfl
  have hq : Vm.get x (gl f V) = none := by rw [gl_get, if_neg hx]
  have HQ := Lib.hid hq
  have HG := Lib.hid h
  clear h hq hx
  go_enter Tryd.func17, Tryd.ntmps17
  go_wp2_with (at_lookup; refine wpList_vlook_ok _ rfl _ _ 60 rfl 20 59 KIF Tryd.underlying60 (zero_map _) b _ rfl HG.out.out x rfl _ HQ.out ?_)
  go_quiet (fail)
  go_wp2_with fail
  go_ret2
  exact ⟨rfl, _, rfl⟩
set_option maxHeartbeats 1000000 in
theorem gdeg_yes (w : World) (Z s b : Nat) (f : Int → Nat) (V : List Int) (E : List Gr.Ed) (x : Int) (h : GrAt w Z s b f V E) (hx : x ∈ V) :
    Calls Tryd.prog 17 #[.pointer (some ⟨s, 0, none⟩), .iface 3 (.int .i64 x)] w fun e w' => e = .returned (.tuple #[.int .i64 ((Gr.adj E x).length : Int), .nilIface]) ∧ w = w' := by
  have c0 : w.cell? ⟨s, 0, none⟩ = some (.map (some b)) := h.blk.cell 0 rfl
  have hq : Vm.get x (gl f V) = some (.map (some (f x))) := by rw [gl_get, if_pos hx]
  have HQ := Lib.hid hq
  have HG := Lib.hid h
  have HX := Lib.hid hx
  have hl := setl_len (Gr.adj E x)
  have HL := Lib.hid hl
  clear h hq hx hl
  go_enter Tryd.func17, Tryd.ntmps17
  go_wp2_with (first
    | (at_lookup; refine wpList_vlook_ok _ rfl _ _ 60 rfl 20 59 KIF Tryd.underlying60 (zero_map _) b _ rfl HG.out.out x rfl _ HQ.out ?_)
    | (at_len; refine wpList_vlen _ rfl _ 59 rfl 20 65 Tryd.underlying59 (f x) _ rfl (HG.out.inn x HX.out) ((Gr.adj E x).length : Int) (by rw [HL.out]) ?_))
  go_ret2
  exact ⟨rfl, rfl⟩

theorem info_if' : (Tryd.prog.info? 20).map (fun i => (i.zero, i.size, i.bytes)) = some (some .nilIface, 1, 16) := by kernel_rfl

def AdjNo (a : Addr) (Z : Nat) (w : World) (e : Ending) (w' : World) : Prop := e = .returned (.tuple #[.slice none 0 0, .iface 67 (.pointer (some a))]) ∧ Below Z w w'
set_option maxHeartbeats 1000000 in
theorem gadj_no (w : World) (Z s b : Nat) (f : Int → Nat) (V : List Int) (E : List Gr.Ed) (x : Int) (a : Addr) (h : GrAt w Z s b f V E) (hc : w.cell? ⟨0, 0, none⟩ = some (.iface 67 (.pointer (some a)))) (hx : x ∉ V) :
    Calls Tryd.prog 15 #[.pointer (some ⟨s, 0, none⟩), .iface 3 (.int .i64 x)] w (AdjNo a Z w) := by
  have HC := Lib.hid (gdeg_no w Z s b f V E x a h hc hx)
  clear h hx
  go_enter Tryd.func15, Tryd.ntmps15
  go_wp2_with fail
  refine HC.out.mono ?_
  rintro e w1 ⟨rfl, n1, rfl⟩
  have hc1 : (w.drewN n1).cell? ⟨0, 0, none⟩ = some (.iface 67 (.pointer (some a))) := hc
  have hb : Below Z w (w.drewN n1) := ⟨rfl, rfl, rfl, Nat.le_refl _, fun _ _ => rfl⟩
  obtain ⟨w1, hw1⟩ : ∃ w1, w1 = w.drewN n1 := ⟨_, rfl⟩
  rw [← hw1] at hc1 hb ⊢
  clear hc hw1
  go_wp2_with fail
  go_quiet (fail)
  go_wp2_with fail
  go_ret2
  exact ⟨rfl, hb.trans ⟨rfl, rfl, rfl, Nat.le_refl _, fun _ _ => rfl⟩⟩

def AdjLoop (m r Z g n : Nat) (L : List Int) (w : World) (k : Nat) (idx : Value) (wr : World) : Prop :=
  ∃ done : List Int, VRange wr ik m r (setl L) done k ∧ idx = .int .i64 (done.length : Int) ∧ wr.ownsRow Z 20 1 (.slice (some ⟨g, 0, none⟩) n n) n (ifs done ++ List.replicate (n - done.length) .nilIface) ∧ Below Z w wr
def AdjYes (L : List Int) (Z n : Nat) (w : World) (e : Ending) (w' : World) : Prop := ∃ ks v, e = .returned (.tuple #[v, .nilIface]) ∧ w'.ownsRow Z 20 1 v n (ifs ks) ∧ SameSet ks L ∧ ks.length = n ∧ Below Z w w'

theorem ifs_put (done : List Int) (n : Nat) (c : Int) (h : done.length < n) : (ifs done ++ List.replicate (n - done.length) Value.nilIface).set done.length (.iface 3 (.int .i64 c)) = ifs (done ++ [c]) ++ List.replicate (n - (done.length + 1)) .nilIface := by
  rw [ifs_app]
  have hl : (ifs done).length = done.length := by simp [ifs]
  rw [show n - done.length = (n - (done.length + 1)) + 1 by omega, List.replicate_succ]
  apply List.ext_getElem?
  intro i
  rw [List.getElem?_set]
  by_cases hi : done.length = i
  · subst hi
    simp [ifs]
  · simp only [hi, if_false]
    rcases Nat.lt_or_ge i done.length with h1 | h1
    · rw [List.getElem?_append_left (by omega), List.append_assoc, List.getElem?_append_left (by omega)]
    · rw [List.getElem?_append_right (by omega), List.append_assoc, List.getElem?_append_right (by omega)]
      obtain ⟨j, hj⟩ : ∃ j, i - (ifs done).length = j + 1 := ⟨i - done.length - 1, by omega⟩
      rw [hj]
      simp [ifs]

set_option maxRecDepth 100000 in
set_option maxHeartbeats 2000000 in
theorem gadj_yes (w : World) (Z s b : Nat) (f : Int → Nat) (V : List Int) (E : List Gr.Ed) (x : Int) (h : GrAt w Z s b f V E) (hZ : Z ≤ w.heap.size) (hx : x ∈ V) (h9 : E.length ≤ 1000) :
    Calls Tryd.prog 15 #[.pointer (some ⟨s, 0, none⟩), .iface 3 (.int .i64 x)] w (AdjYes (Gr.adj E x) Z (Gr.adj E x).length w) := by
  have HC := Lib.hid (gdeg_yes w Z s b f V E x h hx)
  have hq : Vm.get x (gl f V) = some (.map (some (f x))) := by rw [gl_get, if_pos hx]
  have hl9 := Gr.adj_len E x
  have HQ := Lib.hid hq
  have HG := Lib.hid h
  have HX := Lib.hid hx
  have c0 : w.cell? ⟨s, 0, none⟩ = some (.map (some b)) := h.blk.cell 0 rfl
  have hs0 := h.blk.lt
  obtain ⟨L, hL⟩ : ∃ L, Gr.adj E x = L := ⟨_, rfl⟩
  have HLL := Lib.hid hL
  rw [hL] at HC hl9 ⊢
  have HKEYS := Lib.hid (setl_keys L)
  obtain ⟨n, hn⟩ : ∃ n, L.length = n := ⟨_, rfl⟩
  have HN := Lib.hid hn
  rw [hn] at HC hl9 ⊢
  have hn9 : n ≤ 1000 := by omega
  have hni : (n : Int) ≤ 1000 := by omega
  clear h hx hq hL hn hl9 h9
  go_enter Tryd.func15, Tryd.ntmps15
  go_wp2_with fail
  refine HC.out.mono ?_
  rintro e w1 ⟨rfl, rfl⟩
  clear HC
  go_wp2_with (first
    | (at_make; refine wpList_make1 rfl _ _ 45 rfl Z 20 .nilIface 16 Tryd.underlying45 info_if' rfl _ _ _ _ n rfl rfl rfl rfl (by omega) (by unfold maxLen; omega) hZ ?_; intro w1 hown1 hb1 hs1; have c0a := (hb1.cell (p := ⟨s, 0, none⟩) hs0).trans c0; have HO1 := Lib.hid hown1; have HB1 := Lib.hid hb1; have HS1 := Lib.hid hs1; clear hown1 hb1 hs1)
    | (at_lookup; refine wpList_vlook _ rfl _ _ 60 rfl 20 59 KIF Tryd.underlying60 (zero_map _) b _ rfl (HG.out.out.below HB1.out HG.out.out.lt) x rfl _ HQ.out ?_)
    | (at_range; refine wpList_vrange _ rfl _ 59 rfl 20 65 Tryd.underlying59 (f x) (setl L) rfl (by have := (HG.out.inn x HX.out).below HB1.out (HG.out.inn x HX.out).lt; rw [HLL.out] at this; exact this) ?_; intro w2 cnt hrg hg2 hz2))
  go_frame
  have HRG := Lib.hid hrg
  have hb2 : Below Z w w2 := (HB1.out.mono hZ).grown hg2 (by have := HB1.out.size; omega) (by simp)
  have hown2 := HO1.out.kept hg2 (.inr (by simp [Value.ownBlock]))
  have HB2 := Lib.hid hb2
  have HO2 := Lib.hid hown2
  clear hrg hg2 hz2 hb2 hown2 c0a c0
  go_loopg [9] cnt (fun k idx wr => AdjLoop (f x) w1.heap.size Z w.heap.size n L w k idx wr)
  case atStart => exact ⟨[], HRG.out, rfl, by simpa [ifs] using HO2.out, HB2.out⟩
  case round =>
    obtain ⟨done, hrg, rfl, hown, hbel⟩ := hrel
    have hdn := hrg.nodup
    have hle : done.length ≤ n := by
      rw [← HN.out]
      exact hdn.1.length_le_of_subset (fun y hy => by have := hdn.2 y hy; rwa [HKEYS.out] at this)
    have HRG2 := Lib.hid hrg
    have HO := Lib.hid hown
    have HB := Lib.hid hbel
    clear hrg hown hbel hdn
    go_wp2_with (at_next; refine wpList_vnext _ rfl _ rfl 20 KIF (f x) w1.heap.size (setl L) done gk rfl HRG2.out ?_ ?_)
    · intro hall
      have HALL := Lib.hid hall
      clear hall
      go_wp2_with fail
      go_ret2
      have hss : SameSet done L := ⟨HRG2.out.nodup.1, fun y => by rw [HALL.out y, HKEYS.out]⟩
      have hlen : done.length = n := by
        rw [← HN.out]
        have h1 : L.length ≤ done.length := by
          have hnd := HRG2.out.owns.nodup
          rw [HKEYS.out] at hnd
          exact hnd.length_le_of_subset (fun y hy => (hss.2 y).2 hy)
        have := HN.out
        omega
      refine ⟨done, _, rfl, ?_, hss, hlen, HB.out⟩
      have := HO.out
      rw [hlen, Nat.sub_self] at this
      simpa using this
    · intro c u w3 cnt3 hmem hnd hrg3 hlt hgr3 hsz3 hen
      unfold ik at hen ⊢
      have hlt2 : done.length < n := by
        have hdn := hrg3.nodup
        have := hdn.1.length_le_of_subset (fun y hy => by have := hdn.2 y hy; rwa [HKEYS.out] at this)
        rw [HN.out] at this
        simp at this
        omega
      have hlti : (done.length : Int) < (n : Int) := by omega
      obtain ⟨m, hm⟩ : ∃ m, done.length = m := ⟨_, rfl⟩
      have hput := ifs_put done n c hlt2
      have hrow3 := HO.out.kept hgr3 (by
        obtain ⟨mm, a, cc, d, hr⟩ : ∃ m a c d, wr.heap[w1.heap.size]? = some (.mapIter m a c d) := by
          obtain ⟨es, clock, since, seen, c0, _, _, _, _, _, hr, _⟩ := HRG2.out
          exact ⟨_, _, _, _, hr⟩
        refine .inr (fun e => ?_)
        have e2 : w.heap.size = w1.heap.size := by simpa [Value.ownBlock] using e
        have := HS1.out
        omega)
      have hst := hrow3.stored done.length (.iface 3 (.int .i64 c))
      rw [hput] at hst
      have hcell : ∃ u0, w3.cell? ⟨w.heap.size, done.length, none⟩ = some u0 := by
        have h1 := hrow3.cellAt done.length (by omega)
        have h2 : done.length < (ifs done ++ List.replicate (n - done.length) Value.nilIface).length := by simp [ifs]; omega
        exact ⟨_, h1.trans (List.getElem?_eq_getElem h2)⟩
      obtain ⟨u0, hcell⟩ := hcell
      have hfr := hrow3.frozenAt done.length
      have hdl : (done ++ [c]).length = done.length + 1 := by simp
      have HDL := Lib.hid hdl
      have HST := Lib.hid hst
      have HRG3 := Lib.hid hrg3
      have HGR3 := Lib.hid hgr3
      have HLT := Lib.hid hlt
      have HSZ := Lib.hid hsz3
      have HFX : Hid (f x ≠ w.heap.size ∧ w1.heap.size ≠ w.heap.size) := Lib.hid (by have := (HG.out.inn x HX.out).lt; have := HS1.out; omega)
      have hzr : Z ≤ wr.heap.size := Nat.le_trans hZ HB.out.size
      have hz1 : Z ≤ w1.heap.size := by have := HB1.out.size; omega
      clear hmem hnd hput hrow3 hst hdl hrg3 hgr3 hlt hsz3
      rw [hm] at hlti hlt2 hcell hfr HST HDL
      clear hle
      rw [hm]
      go_wp2_with fail
      go_roundg cnt3
      case measure => exact HLT.out
      case rel =>
        refine ⟨done ++ [c], HRG3.out.setCell HFX.out.1 HFX.out.2 _, by rw [HDL.out]; go_num, by rw [HDL.out]; exact HST.out.1, ?_⟩
        exact (HB.out.grown HGR3.out hzr (fun k hk => by injection hk with hk; omega)).setCell hZ _
end Go.Proofs.YtdmkijdokmnicaaDoor
