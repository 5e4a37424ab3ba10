/- Walks of impl.grOf, GRRun, GRAdj, GRDegree. -/
import Derived.Test.YtdmkijdokmnicaaDoorGrAdj
import Derived.Test.YtdmkijdokmnicaaDoorRow
import Derived.Deep.LoopGhost
namespace Go.Proofs.YtdmkijdokmnicaaDoor
set_option linter.unusedVariables false
open Go.RowKit

def edRow (e : Gr.Ed) : List Value := [.int .i64 e.1, .int .i64 e.2]
theorem gr_take (l : List Gr.Ed) (i : Nat) (h : i < l.length) : Gr.run (l.take (i + 1)) = Gr.step (Gr.run (l.take i)) (l.getD i (0, 0)) := by
  rw [List.take_succ_eq_append_getElem h, Gr.run_snoc]
  simp [h]
theorem ed_at (l : List Gr.Ed) (i : Nat) (h : i < l.length) : (l.map edRow)[i]? = some [.int .i64 (l.getD i (0, 0)).1, .int .i64 (l.getD i (0, 0)).2] := by
  simp [h, edRow]
theorem run_small (l : List Gr.Ed) (i : Nat) (h : l.length ≤ 100) : (Gr.run (l.take i)).1.length ≤ 1000 ∧ (Gr.run (l.take i)).2.length ≤ 1000 := by
  have h1 := Gr.run_len (l.take i)
  have h2 : (l.take i).length ≤ l.length := by rw [List.length_take]; omega
  omega
theorem err_le (g : Gr.St) (x : Gr.Ed) : Gr.err g x = 0 ∨ Gr.err g x = 1 ∨ Gr.err g x = 2 ∨ Gr.err g x = 3 := by
  unfold Gr.err; split
  · simp
  · split <;> simp

theorem row_nomap {w : World} {B : Nat} {e : TypeId} {size : Nat} {v : Value} {n : Nat} {xs : List Value} (h : w.ownsRow B e size v n xs) {b : Nat} {l : List (Int × Value)} (hs : VMap w ik b l) : v.ownBlock ≠ some b := by
  rcases h.2 with ⟨rfl, _⟩ | ⟨g, cap, cur, rfl, _, hh, _⟩
  · simp [Value.ownBlock]
  · intro e1
    simp [Value.ownBlock] at e1
    subst e1
    obtain ⟨es, clock, hm, _⟩ := hs
    rw [hm] at hh
    cases hh
theorem GrAt.grown {w w' : World} {Z s b : Nat} {f : Int → Nat} {V : List Int} {E : List Gr.Ed} (h : GrAt w Z s b f V E) {B : Nat} {e : TypeId} {size : Nat} {v : Value} {n : Nat} {xs : List Value} (ho : w.ownsRow B e size v n xs) (he : e ≠ 62) (hg : w.grownBy w' v.ownBlock) : GrAt w' Z s b f V E :=
  ⟨h.blk.grown hg (row_blk ho h.blk he), h.out.grown hg (row_nomap ho h.out), fun x hx => (h.inn x hx).grown hg (row_nomap ho (h.inn x hx)), h.sb, h.apart, h.inj, h.nd, h.zs, h.zb, h.zf⟩

def OfLoop (l : List Gr.Ed) (n s b : Nat) (w : World) (k : Nat) (out idx : Value) (wr : World) : Prop :=
  ∃ (i : Nat) (p : Option Addr) (cap : Nat) (f : Int → Nat) (xs : List Value), out = .slice p i cap ∧ idx = .int .i64 (i : Int) ∧ i + k = n ∧ wr.ownsRow w.heap.size 3 1 (.slice p i cap) i xs ∧
    GrAt wr w.heap.size s b f (Gr.run (l.take i)).1 (Gr.run (l.take i)).2 ∧ Below w.heap.size w wr
def OfPost (l : List Gr.Ed) (w : World) (e : Ending) (w' : World) : Prop :=
  ∃ s b f v, e = .returned (.tuple #[.pointer (some ⟨s, 0, none⟩), v]) ∧ GrAt w' w.heap.size s b f (Gr.run l).1 (Gr.run l).2 ∧ Below w.heap.size w w'

set_option maxRecDepth 100000 in
set_option maxHeartbeats 4000000 in
theorem grof_any (v : Value) (l : List Gr.Ed) (w : World) (a0 a1 a2 : Addr) (hv : Rw 2 w v (l.map edRow)) (h9 : l.length ≤ 100) (hSn : Sn w a0 a1 a2) :
    Calls Tryd.prog 14 #[v] w (OfPost l w) := by
  obtain ⟨a, n, cap, rfl, hla, hc, hm, hr⟩ := hv
  rw [List.length_map] at hla
  have hn1 : n ≤ 100 := by omega
  have HL := Lib.hid hla
  have HSN := Lib.hid (fun w' (hb : Below w.heap.size w w') => hSn.below (Nat.le_refl _) hb)
  have HR := Lib.hid hr
  have HS9 := Lib.hid h9
  clear hla h9 hm hSn hr hc
  go_enter Tryd.func14, Tryd.ntmps14
  go_wp2_with fail
  refine (gnew_any w w.heap.size (Nat.le_refl _)).mono ?_
  rintro e w1 ⟨s, b, rfl, hg, hb⟩
  have HG := Lib.hid hg
  have HB := Lib.hid hb
  clear hg hb
  go_wp2_with fail
  go_loopg [5, 11] n (fun k out idx wr => OfLoop l n s b w k out idx wr)
  case atStart => exact ⟨0, none, 0, _, [], rfl, rfl, by omega, World.ownsRow_nil _ _ _ _, HG.out, HB.out⟩
  case round =>
    obtain ⟨i, p, cap0, f, xs, rfl, rfl, hik, hown, hg, hbel⟩ := hrel
    have HO := Lib.hid hown
    have HGR := Lib.hid hg
    have HBL := Lib.hid hbel
    have hsz := hbel.size
    clear hown hg
    by_cases hi : i < n
    · cases gk with
      | zero => omega
      | succ k =>
        obtain ⟨b1, o1, rfl, hcell⟩ := HR.out (by omega)
        have hil : i < l.length := by rw [HL.out]; exact hi
        have q0 := hcell i _ (ed_at l i hil) 0 _ rfl
        have q1 := hcell i _ (ed_at l i hil) 1 _ rfl
        rw [← hbel.cell (World.block_lt_of_cell? w _ q0)] at q0
        rw [← hbel.cell (World.block_lt_of_cell? w _ q1)] at q1
        have htk := gr_take l i hil
        have hok := Gr.ok_run (l.take i)
        have hsm := run_small l i HS9.out
        obtain ⟨x, y, hxy⟩ : ∃ x y, l.getD i (0, 0) = (x, y) := ⟨_, _, rfl⟩
        rw [hxy] at q0 q1 htk
        simp only at q0 q1
        rw [Nat.add_zero] at q0
        have HTK := Lib.hid htk
        have HOK := Lib.hid hok
        have HSM := Lib.hid hsm
        have herr := err_le (Gr.run (l.take i)) (x, y)
        have HERR := Lib.hid herr
        rw [← Nat.add_assoc] at q1
        clear hcell hil htk hok hsm hxy herr hbel
        go_wp2_with fail
        refine (gedge_any _ w.heap.size s b f (Gr.run (l.take i)) x y a0 a1 a2 (HGR.out.below ((Below.refl _ _).alloc (Nat.le_refl _) _)) (by simp; omega) HOK.out HSM.out.1 HSM.out.2 (fun w' hb => HSN.out w' ((HBL.out.alloc hsz _).trans hb))).mono ?_
        rintro e w2 ⟨f2, rfl, hg2, hb2, hk2⟩
        rw [← HTK.out] at hg2
        have hbt := (HBL.out.alloc hsz (.cells #[.int .i64 x, .int .i64 y] 37)).trans hb2
        have hown2 := hk2.row (HO.out.alloc (.cells #[.int .i64 x, .int .i64 y] 37)) (row_blk HO.out HGR.out.blk (by decide))
        have HO2 := Lib.hid hown2
        have HG2 := Lib.hid hg2
        have HBT := Lib.hid hbt
        have hmx : i + 1 ≤ maxLen := by unfold maxLen; omega
        have hsz2 := hbt.size
        clear hg2 hb2 hbt hk2 hown2
        go_wp2_with fail
        refine (grerr_any a0 a1 a2 w2 (HSN.out w2 HBT.out) _ HERR.out).mono ?_
        rintro e w2 ⟨rfl, rfl⟩
        go_wp2_with (at_builtin; refine wpList_append1 rfl _ _ 23 rfl w.heap.size 3 (.int .i64 0) 8 Tryd.underlying23 info_int rfl _ i xs rfl HO2.out _ rfl rfl hmx (by omega) hsz2 ?_; intro g cap1 w3 hown3 hg3 hb3)
        go_roundg k
        case measure => omega
        case rel =>
          exact ⟨i + 1, some ⟨g, 0, none⟩, cap1, f2, _, rfl, by go_num, by omega, hown3, HG2.out.grown HO2.out (by decide) hg3, HBT.out.trans hb3⟩
    · obtain rfl : i = n := by omega
      have hd : decide ((i : Int) < (i : Int)) = false := by simp
      have hfin : l.take i = l := List.take_of_length_le (by rw [HL.out]; exact Nat.le_refl _)
      have HF := Lib.hid hfin
      clear hfin hbel
      go_wp2_with fail
      go_ret2
      have hg := HGR.out
      rw [HF.out] at hg
      exact ⟨s, b, f, _, rfl, hg, HBL.out⟩

set_option maxHeartbeats 1000000 in
theorem grrun_any (v : Value) (l : List Gr.Ed) (w : World) (a0 a1 a2 : Addr) (hv : Rw 2 w v (l.map edRow)) (h9 : l.length ≤ 100) (hSn : Sn w a0 a1 a2) :
    Calls Tryd.prog 12 #[v] w fun e w' => ∃ u, e = .returned (.tuple #[u, .int .i64 ((Gr.run l).1.length : Int), .int .i64 ((Gr.run l).2.length : Int)]) ∧ Below w.heap.size w w' := by
  have HC := Lib.hid (grof_any v l w a0 a1 a2 hv h9 hSn)
  clear hv h9 hSn
  go_enter Tryd.func12, Tryd.ntmps12
  go_wp2_with fail
  refine HC.out.mono ?_
  rintro e w1 ⟨s, b, f, u, rfl, hg, hb⟩
  have HG := Lib.hid hg
  have HB := Lib.hid hb
  clear hg hb HC
  go_wp2_with fail
  refine (gV_any _ w.heap.size s b f _ _ HG.out).mono ?_
  rintro e w1 ⟨rfl, rfl⟩
  go_wp2_with fail
  refine (gE_any _ w.heap.size s b f _ _ HG.out).mono ?_
  rintro e w1 ⟨rfl, rfl⟩
  go_wp2_with fail
  go_ret3
  exact ⟨u, rfl, HB.out⟩

/-- what Degree tells -/
def degOf (l : List Gr.Ed) (x : Int) : Int × Int := if x ∈ (Gr.run l).1 then ((Gr.adj (Gr.run l).2 x).length, 0) else (0, 1)
set_option maxHeartbeats 1000000 in
theorem grdeg_any (v : Value) (l : List Gr.Ed) (x : Int) (w : World) (a0 a1 a2 : Addr) (hv : Rw 2 w v (l.map edRow)) (h9 : l.length ≤ 100) (hSn : Sn w a0 a1 a2) :
    Calls Tryd.prog 7 #[v, .int .i64 x] w fun e w' => e = .returned (.tuple #[.int .i64 (degOf l x).1, .int .i64 (degOf l x).2]) ∧ Below w.heap.size w w' := by
  have HC := Lib.hid (grof_any v l w a0 a1 a2 hv h9 hSn)
  have HSN := Lib.hid (fun w' (hb : Below w.heap.size w w') => hSn.below (Nat.le_refl _) hb)
  obtain ⟨V, hV⟩ : ∃ V, (Gr.run l).1 = V := ⟨_, rfl⟩
  obtain ⟨E, hE⟩ : ∃ V, (Gr.run l).2 = V := ⟨_, rfl⟩
  clear hv h9 hSn
  unfold OfPost at HC
  unfold degOf
  rw [hV, hE] at HC ⊢
  clear hV hE
  by_cases hx : x ∈ V
  · have HX := Lib.hid hx
    rw [if_pos hx]
    simp only []
    clear hx
    go_enter Tryd.func7, Tryd.ntmps7
    go_wp2_with fail
    refine HC.out.mono ?_
    rintro e w1 ⟨s, b, f, u, rfl, hg, hb⟩
    have HG := Lib.hid hg
    have HB := Lib.hid hb
    clear hg hb HC
    go_wp2_with fail
    refine (gdeg_yes w1 w.heap.size s b f V E x HG.out HX.out).mono ?_
    rintro e w1 ⟨rfl, rfl⟩
    have hn := grerr0 a0 a1 a2 w1 (HSN.out w1 HB.out)
    rw [show errv a0 a1 a2 0 = Value.nilIface from rfl] at hn
    have HN := Lib.hid hn
    clear hn
    go_wp2_with fail
    refine HN.out.mono ?_
    rintro e w1 ⟨rfl, rfl⟩
    go_wp2_with fail
    go_ret2
    exact ⟨rfl, HB.out⟩
  · have HX := Lib.hid hx
    rw [if_neg hx]
    simp only []
    clear hx
    go_enter Tryd.func7, Tryd.ntmps7
    go_wp2_with fail
    refine HC.out.mono ?_
    rintro e w1 ⟨s, b, f, u, rfl, hg, hb⟩
    have HG := Lib.hid hg
    have HB := Lib.hid hb
    clear hg hb HC
    go_wp2_with fail
    refine (gdeg_no w1 w.heap.size s b f V E x a0 HG.out (HSN.out w1 HB.out).c0 HX.out).mono ?_
    rintro e w2 ⟨rfl, nq, hw2⟩
    have hb2 : Below w.heap.size w w2 := by rw [hw2]; exact HB.out.trans ⟨rfl, rfl, rfl, Nat.le_refl _, fun _ _ => rfl⟩
    have hn := grerr1 a0 a1 a2 w2 (HSN.out w2 hb2)
    rw [show errv a0 a1 a2 1 = Value.iface 67 (.pointer (some a0)) from rfl] at hn
    have HN := Lib.hid hn
    have HB2 := Lib.hid hb2
    clear hn hw2 hb2
    go_wp2_with fail
    refine HN.out.mono ?_
    rintro e w1 ⟨rfl, rfl⟩
    go_wp2_with fail
    go_ret2
    exact ⟨rfl, HB2.out⟩

theorem assert_int (X : Int) (w : World) : (Instr.typeAssert (.iface 3 (.int .i64 X)) 20 3 false).run Tryd.prog w = .ok (.int .i64 X) w := by kernel_rfl

def AdjIn (ks : List Int) (n : Nat) (w : World) (k : Nat) (out idx : Value) (wr : World) : Prop :=
  ∃ (i : Nat) (p : Option Addr) (cap : Nat), out = .slice p i cap ∧ idx = .int .i64 (i : Int) ∧ i + k = n ∧ wr.ownsRow w.heap.size 3 1 (.slice p i cap) i (i64s (ks.take i)) ∧ Below w.heap.size w wr
def GAdjPost (l : List Gr.Ed) (x : Int) (w : World) (e : Ending) (w' : World) : Prop :=
  ∃ ks v, e = .returned (.tuple #[v, .int .i64 (if x ∈ (Gr.run l).1 then 0 else 1)]) ∧ Sl w' v (i64s ks) ∧ SameSet ks (Gr.adj (Gr.run l).2 x) ∧ (x ∉ (Gr.run l).1 → ks = []) ∧ Below w.heap.size w w'
end Go.Proofs.YtdmkijdokmnicaaDoor
