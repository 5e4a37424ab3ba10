/- Walks of spec.GROf and (GRGraph).Adj. -/
import Derived.Test.YtdmkijdokmnicaaDoorGrAdd
import Derived.Deep.AppendLies
namespace Go.Proofs.YtdmkijdokmnicaaDoor
set_option linter.unusedVariables false
open Go.RowKit

/-- a graph of the reference, whose lists the call has made: blocks from Z on -/
def GsAt (w : World) (Z : Nat) (vv ev : Value) (g : Gr.St) : Prop :=
  w.ownsRow Z 3 1 vv g.1.length (i64s g.1) ∧ w.ownsRow Z 37 2 ev g.2.length (edFlat g.2) ∧ (g.2 = [] → ev = .slice none 0 0)
theorem GsAt.sl {w : World} {Z : Nat} {vv ev : Value} {g : Gr.St} (h : GsAt w Z vv ev g) : Sl w vv (i64s g.1) := Sl.of_owns h.1
theorem GsAt.es {w : World} {Z : Nat} {vv ev : Value} {g : Gr.St} (h : GsAt w Z vv ev g) : EsAt w ev g.2 := by
  by_cases h0 : g.2 = []
  · exact .inl ⟨h.2.2 h0, h0⟩
  · have hl : 0 < g.2.length := List.length_pos_iff.2 h0
    rcases h.2.1.2 with ⟨e, _⟩ | ⟨gb, cap, cur, e, _⟩
    · have := h.2.1.1
      rename_i hh
      rw [edFlat_len] at this
      simp only [e] at *
      exact absurd (List.eq_nil_of_length_eq_zero (by
        have h2 := h.2.1.2
        rcases h2 with ⟨_, e3⟩ | ⟨_, _, _, e3, _⟩
        · exact e3
        · cases e3)) h0
    · have h2 := h.2.1
      rw [e] at h2 ⊢
      exact EsAt.of_owns h2 hl
theorem GsAt.next {w w' : World} {Z : Nat} {vv ev : Value} {g : Gr.St} (h : GsAt w Z vv ev g) (hb : Below w.heap.size w w') : GsAt w' Z vv ev g := ⟨row_below h.1 hb, row_below h.2.1 hb, h.2.2⟩
theorem GsAt.set {w : World} {Z : Nat} {vv ev : Value} {g : Gr.St} (h : GsAt w Z vv ev g) {p : Addr} (hp : p.block < Z) (u : Value) : GsAt (w.setCell p u) Z vv ev g := ⟨row_set h.1 hp u, row_set h.2.1 hp u, h.2.2⟩
theorem GsAt.alloc {w : World} {Z : Nat} {vv ev : Value} {g : Gr.St} (h : GsAt w Z vv ev g) (o : Obj) : GsAt (w.alloc o) Z vv ev g := ⟨h.1.alloc o, h.2.1.alloc o, h.2.2⟩
theorem GsAt.drew {w : World} {Z : Nat} {vv ev : Value} {g : Gr.St} (h : GsAt w Z vv ev g) : GsAt w.drew Z vv ev g := h

/-- the row of a slice lies in the block of another one, or in a new one -/
def OldNew (w : World) (old : Value) (v : Value) : Prop := ∀ b, v.ownBlock = some b → old.ownBlock = some b ∨ w.heap.size ≤ b
def AddPost (Z : Nat) (g : Gr.St) (n : Int) (old : Value) (w : World) (e : Ending) (w' : World) : Prop :=
  ∃ p m c q k d, OldNew w old (.slice p m c) ∧ e = .returned (.tuple #[.agg #[.slice p m c, .slice q k d], .int .i64 n]) ∧ GsAt w' Z (.slice p m c) (.slice q k d) g ∧ Below w.heap.size w w'

set_option maxHeartbeats 1000000 in
theorem gadds_loop (p q : Option Addr) (m c k d : Nat) (Z : Nat) (g : Gr.St) (x : Int) (w : World) (h : GsAt w Z (.slice p m c) (.slice q k d) g) (hZ : Z ≤ w.heap.size) :
    Calls Tryd.prog 13 #[.agg #[.slice p m c, .slice q k d], .agg #[.int .i64 x, .int .i64 x]] w (AddPost Z g 2 (.slice p m c) w) := by
  have hxx : (x == x) = true := by simp
  have HG := Lib.hid h
  clear h
  go_enter Tryd.func13, Tryd.ntmps13
  go_wp2_with fail
  refine bodyPost_ret (v := .tuple #[.agg #[.slice p m c, .slice q k d], .int .i64 2]) (by simp [results, Tryd.results13, go_sem]) rfl ⟨p, m, c, q, k, d, fun b hb => .inl hb, rfl, ?_, ?_⟩
  · exact ((HG.out.alloc _).alloc _).alloc _
  · exact (((Below.refl _ _).alloc (Nat.le_refl _) _).alloc (by simp) _).alloc (by simp; omega) _

set_option maxHeartbeats 1000000 in
theorem gadds_par (p q : Option Addr) (m c k d : Nat) (Z : Nat) (g : Gr.St) (x y : Int) (w : World) (h : GsAt w Z (.slice p m c) (.slice q k d) g) (hZ : Z ≤ w.heap.size) (hne : x ≠ y) (hj : Gr.joined g.2 x y) (h9 : g.2.length ≤ 1000) :
    Calls Tryd.prog 13 #[.agg #[.slice p m c, .slice q k d], .agg #[.int .i64 x, .int .i64 y]] w (AddPost Z g 3 (.slice p m c) w) := by
  have hxx : (x == y) = false := by simpa using hne
  have HG := Lib.hid h
  have hjj : decide (Gr.joined g.2 x y) = true := by simpa using hj
  have HJ := Lib.hid (fun w2 (hb : Below w.heap.size w w2) => joined_any (.slice p m c) (.slice q k d) g.2 x y w2 (h.es.below hb) h9)
  rw [hjj] at HJ
  clear h hne hj hjj h9
  go_enter Tryd.func13, Tryd.ntmps13
  go_wp2_with fail
  have hb0 : Below w.heap.size w (((w.alloc (.cells #[.slice p m c, .slice q k d] 25)).alloc (.cells #[.int .i64 x, .int .i64 y] 37)).alloc (.cells #[.slice none 0 0, .slice none 0 0] 25)) := (((Below.refl _ _).alloc (Nat.le_refl _) _).alloc (by simp) _).alloc (by simp; omega) _
  refine (HJ.out _ hb0).mono ?_
  rintro e w3 ⟨rfl, hb3⟩
  have kA : Blk w3 w.heap.size 25 #[.slice p m c, .slice q k d] := (((Blk.new w 25 #[.slice p m c, .slice q k d]).alloc _).alloc _).below hb3 (by simp; omega)
  have kR : Blk w3 (w.heap.size + 1 + 1) 25 #[.slice none 0 0, .slice none 0 0] := by simpa using (Blk.new ((w.alloc (.cells #[.slice p m c, .slice q k d] 25)).alloc (.cells #[.int .i64 x, .int .i64 y] 37)) 25 #[.slice none 0 0, .slice none 0 0]).below hb3 (by simp)
  have q0 : w3.cell? ⟨w.heap.size, 0, none⟩ = some (.slice p m c) := kA.cell 0 rfl
  have q1 : w3.cell? ⟨w.heap.size, 1, none⟩ = some (.slice q k d) := kA.cell 1 rfl
  have r0 : w3.cell? ⟨w.heap.size + 1 + 1, 0, none⟩ = some (.slice none 0 0) := kR.cell 0 rfl
  have r1 : w3.cell? ⟨w.heap.size + 1 + 1, 1, none⟩ = some (.slice none 0 0) := kR.cell 1 rfl
  have g0 := kR.free 0
  have g1 := kR.free 1
  have HRK := Lib.hid kR
  have HB3 := Lib.hid (hb0.trans (hb3.mono (by simp; omega)))
  clear hb0 hb3 kA kR
  go_wp2_with fail
  have h0 := fun u v => ((HRK.out.set 0 u).set 1 v).cell 0 (v := u) (by simp)
  have h1 := fun u v => ((HRK.out.set 0 u).set 1 v).cell 1 (v := v) (by simp)
  refine bodyPost_ret (v := .tuple #[.agg #[.slice p m c, .slice q k d], .int .i64 3]) (by simp [results, Tryd.results13, go_sem, h0, h1]) rfl ⟨p, m, c, q, k, d, fun b hb => .inl hb, rfl, ?_, ?_⟩
  · exact HG.out.next ((HB3.out.setCell (by simp only []; omega) _).setCell (by simp only []; omega) _)
  · exact (HB3.out.setCell (by simp only []; omega) _).setCell (by simp only []; omega) _

theorem addAll_two (V : List Int) (x y : Int) : Zs.addAll V [x, y] = Gr.add1 (Gr.add1 V x) y := rfl

theorem gadds_new (p q : Option Addr) (m c k d : Nat) (Z : Nat) (g : Gr.St) (x y : Int) (w : World) (h : GsAt w Z (.slice p m c) (.slice q k d) g) (hZ : Z ≤ w.heap.size) (hne : x ≠ y) (hj : ¬ Gr.joined g.2 x y) (h9 : g.2.length ≤ 1000) (h8 : g.1.length ≤ 1000) :
    Calls Tryd.prog 13 #[.agg #[.slice p m c, .slice q k d], .agg #[.int .i64 x, .int .i64 y]] w (AddPost Z (Gr.add1 (Gr.add1 g.1 x) y, g.2 ++ [(x, y)]) 0 (.slice p m c) w) := by
  have fin : ∀ e w', AddNew g.1 g.2 x y w e w' → AddPost Z (Gr.add1 (Gr.add1 g.1 x) y, g.2 ++ [(x, y)]) 0 (.slice p m c) w e w' := by
    rintro e w' ⟨vv, gb, n, cap, rfl, h1, h2, h3⟩
    obtain ⟨p', m', c', rfl⟩ := owns_slice h1
    refine ⟨p', m', c', _, _, _, fun b hb => .inr (h1.lt b hb).1, rfl, ⟨row_weaken h1 hZ, ?_, fun e => by simp at e⟩, h3⟩
    have h4 := h2.2
    have hl := h4.1
    rw [edFlat_len] at hl
    have hn : (g.2 ++ [(x, y)]).length = n := by omega
    show w'.ownsRow Z _ 2 _ (g.2 ++ [(x, y)]).length _
    rw [hn]
    exact row_weaken h4 hZ
  have hes := h.es
  have hsl := h.sl
  obtain ⟨V, E⟩ := g
  rcases hes with ⟨e, e2⟩ | ⟨gb, o, n, cap, e, h1, h2, h3, h4, h5⟩
  · simp only [Value.slice.injEq] at e
    obtain ⟨rfl, rfl, rfl⟩ := e
    simp only at e2
    subst e2
    exact (gadds_nil (.slice p m c) V x y w hsl (.inl ⟨rfl, rfl⟩) (by simp) h8 hne hj).mono fin
  · have e' := e
    simp only [Value.slice.injEq] at e'
    obtain ⟨rfl, rfl, rfl⟩ := e'
    exact (gadds_some (.slice p m c) V E x y w gb o k d h1 h2 h3 h4 hsl (.inr ⟨gb, o, k, d, rfl, h1, h2, h3, h4, h5⟩) h9 h8 hne hj).mono fin

theorem gadds_any (p q : Option Addr) (m c k d : Nat) (Z : Nat) (g : Gr.St) (x y : Int) (w : World) (h : GsAt w Z (.slice p m c) (.slice q k d) g) (hZ : Z ≤ w.heap.size) (h9 : g.2.length ≤ 1000) (h8 : g.1.length ≤ 1000) :
    Calls Tryd.prog 13 #[.agg #[.slice p m c, .slice q k d], .agg #[.int .i64 x, .int .i64 y]] w (AddPost Z (Gr.step g (x, y)) (Gr.err g (x, y)) (.slice p m c) w) := by
  by_cases hxy : x = y
  · subst hxy
    have e1 : Gr.step g (x, x) = g := by simp [Gr.step]
    have e2 : Gr.err g (x, x) = 2 := by simp [Gr.err]
    rw [e1, e2]
    exact gadds_loop p q m c k d Z g x w h hZ
  · by_cases hj : Gr.joined g.2 x y
    · have e1 : Gr.step g (x, y) = g := by simp [Gr.step, hxy, hj]
      have e2 : Gr.err g (x, y) = 3 := by simp [Gr.err, hxy, hj]
      rw [e1, e2]
      exact gadds_par p q m c k d Z g x y w h hZ hxy hj h9
    · have e1 : Gr.step g (x, y) = (Gr.add1 (Gr.add1 g.1 x) y, g.2 ++ [(x, y)]) := by simp [Gr.step, hxy, hj]
      have e2 : Gr.err g (x, y) = 0 := by simp [Gr.err, hxy, hj]
      rw [e1, e2]
      exact gadds_new p q m c k d Z g x y w h hZ hxy hj h9 h8

theorem row_rows {w : World} {B B' : Nat} {e e' : TypeId} {z z' : Nat} {v v' : Value} {n n' : Nat} {xs xs' : List Value} (h1 : w.ownsRow B e z v n xs) (h2 : w.ownsRow B' e' z' v' n' xs') (he : e ≠ e') : ∀ b, v.ownBlock = some b → v'.ownBlock ≠ some b := by
  intro b hb hb2
  rcases h1.2 with ⟨rfl, _⟩ | ⟨g, cap, cur, rfl, _, hg, _⟩
  · cases hb
  · rcases h2.2 with ⟨rfl, _⟩ | ⟨g2, cap2, cur2, rfl, _, hg2, _⟩
    · cases hb2
    · simp [Value.ownBlock] at hb hb2
      subst hb; subst hb2
      rw [hg] at hg2
      injection hg2 with hg2
      injection hg2 with _ hg2
      exact he hg2
theorem kept_of {v u : Value} (h : ∀ b, v.ownBlock = some b → u.ownBlock ≠ some b) : u.ownBlock = none ∨ u.ownBlock ≠ v.ownBlock := by
  cases hu : u.ownBlock with
  | none => exact .inl rfl
  | some b => exact .inr fun e => h b e.symm hu
/-- what an append to the errors leaves -/
theorem gof_step {W w4 : World} {Z : Nat} {v vv ev : Value} {g : Gr.St} {i gA capA : Nat} {xs ys : List Value} (hO : W.ownsRow Z 3 1 v i xs) (hS : GsAt W Z vv ev g) (hdj : ∀ b, v.ownBlock = some b → vv.ownBlock ≠ some b) (hZ : Z ≤ W.heap.size)
    (hO4 : w4.ownsRow Z 3 1 (.slice (some ⟨gA, 0, none⟩) (i + 1) capA) (i + 1) ys) (hgr : W.grownBy w4 v.ownBlock) (hat : v.ownBlock = some gA ∨ gA = W.heap.size) :
    GsAt w4 Z vv ev g ∧ (∀ b, (Value.slice (some ⟨gA, 0, none⟩) (i + 1) capA).ownBlock = some b → vv.ownBlock ≠ some b) ∧ (∀ k t cs, Blk W k t cs → 3 ≠ t → Blk w4 k t cs) ∧ Below Z W w4 := by
  refine ⟨⟨hS.1.kept hgr (kept_of hdj), hS.2.1.kept hgr (kept_of (row_rows hO hS.2.1 (by decide))), hS.2.2⟩, ?_, fun k t cs hk ht => hk.grown hgr (row_blk hO hk ht), (Below.refl _ _).grown hgr hZ (fun k hk => (hO.lt k hk).1)⟩
  intro b hb hb2
  simp [Value.ownBlock] at hb
  subst hb
  rcases hat with h | h
  · exact hdj gA h hb2
  · have := (hS.1.lt gA hb2).2
    omega
theorem gof_cont {Goal : Prop} {w0 W w4 : World} {B Z : Nat} {v vv ev : Value} {g : Gr.St} {i gA capA : Nat} {xs ys : List Value} (hO : W.ownsRow Z 3 1 v i xs) (hS : GsAt W Z vv ev g) (hB : Below B w0 W) (hdj : ∀ b, v.ownBlock = some b → vv.ownBlock ≠ some b) (hZ : Z ≤ W.heap.size) (hBZ : B ≤ Z)
    (hO4 : w4.ownsRow Z 3 1 (.slice (some ⟨gA, 0, none⟩) (i + 1) capA) (i + 1) ys) (hgr : W.grownBy w4 v.ownBlock) (hat : v.ownBlock = some gA ∨ gA = W.heap.size)
    (hk : GsAt w4 Z vv ev g → (∀ b, (Value.slice (some ⟨gA, 0, none⟩) (i + 1) capA).ownBlock = some b → vv.ownBlock ≠ some b) → (∀ k t cs, Blk W k t cs → 3 ≠ t → Blk w4 k t cs) → Below B w0 w4 → Goal) : Goal := by
  obtain ⟨h1, h2, h3, h4⟩ := gof_step hO hS hdj hZ hO4 hgr hat
  exact hk h1 h2 h3 (hB.trans (h4.mono hBZ))
theorem Blk.two {w : World} {b : Nat} {t : TypeId} {a0 a1 b0 b1 : Value} (h : Blk w b t #[a0, a1]) : Blk ((w.setCell ⟨b, 0, none⟩ b0).setCell ⟨b, 1, none⟩ b1) b t #[b0, b1] := by
  simpa using (h.set 0 b0).set 1 b1

def GofLoop (l : List Gr.Ed) (n : Nat) (w : World) (k : Nat) (out idx : Value) (wr : World) : Prop :=
  ∃ (i : Nat) (ep : Option Addr) (ec : Nat) (xs : List Value) (p q : Option Addr) (m c kk d : Nat), out = .slice ep i ec ∧ idx = .int .i64 (i : Int) ∧ i + k = n ∧ wr.ownsRow (w.heap.size + 2) 3 1 (.slice ep i ec) i xs ∧
    Blk wr w.heap.size 25 #[.slice none 0 0, .slice none 0 0] ∧ Blk wr (w.heap.size + 1) 25 #[.slice p m c, .slice q kk d] ∧ GsAt wr (w.heap.size + 2) (.slice p m c) (.slice q kk d) (Gr.run (l.take i)) ∧ Below w.heap.size w wr ∧ w.heap.size + 2 ≤ wr.heap.size ∧ (∀ b, (Value.slice ep i ec).ownBlock = some b → (Value.slice p m c).ownBlock ≠ some b)
def GofPost (l : List Gr.Ed) (w : World) (e : Ending) (w' : World) : Prop :=
  ∃ vv ev u, e = .returned (.tuple #[.agg #[vv, ev], u]) ∧ Sl w' vv (i64s (Gr.run l).1) ∧ EsAt w' ev (Gr.run l).2 ∧ Below w.heap.size w w'

set_option maxRecDepth 100000 in
set_option maxHeartbeats 4000000 in
theorem gof_any (v : Value) (l : List Gr.Ed) (w : World) (hv : Rw 2 w v (l.map edRow)) (h9 : l.length ≤ 100) :
    Calls Tryd.prog 5 #[v] w (GofPost l w) := by
  obtain ⟨a, n, cap, rfl, hla, hc, hm, hr⟩ := hv
  rw [List.length_map] at hla
  have hn1 : n ≤ 100 := by omega
  have HL := Lib.hid hla
  have HR := Lib.hid hr
  have HS9 := Lib.hid h9
  clear hla h9 hm hr hc
  go_enter Tryd.func5, Tryd.ntmps5
  go_wp2_with fail
  go_loopg [5, 12] n (fun k out idx wr => GofLoop l n w k out idx wr)
  case atStart =>
    have kR : Blk ((w.alloc (.cells #[.slice none 0 0, .slice none 0 0] 25)).alloc (.cells #[.slice none 0 0, .slice none 0 0] 25)) w.heap.size 25 #[.slice none 0 0, .slice none 0 0] := (Blk.new w _ _).alloc _
    have kG : Blk ((w.alloc (.cells #[.slice none 0 0, .slice none 0 0] 25)).alloc (.cells #[.slice none 0 0, .slice none 0 0] 25)) (w.heap.size + 1) 25 #[.slice none 0 0, .slice none 0 0] := by simpa using Blk.new (w.alloc (.cells #[.slice none 0 0, .slice none 0 0] 25)) 25 #[.slice none 0 0, .slice none 0 0]
    refine ⟨0, none, 0, [], none, none, 0, 0, 0, 0, rfl, rfl, by omega, World.ownsRow_nil _ _ _ _, kR, kG, ⟨?_, ?_, fun _ => rfl⟩, ((Below.refl _ _).alloc (Nat.le_refl _) _).alloc (by simp) _, by simp, by simp [Value.ownBlock]⟩
    · simpa [Gr.run, i64s] using World.ownsRow_nil _ _ _ _
    · simpa [Gr.run, edFlat] using World.ownsRow_nil _ _ _ _
  case round =>
    obtain ⟨i, ep, ec, xs, p, q, m, c, kk, d, rfl, rfl, hik, hown, hkR, hkG, hgs, hbel, hsz2, hdj⟩ := hrel
    have HDJ := Lib.hid hdj
    clear hdj
    have HO := Lib.hid hown
    have HKR := Lib.hid hkR
    have HKG := Lib.hid hkG
    have HGS := Lib.hid hgs
    have HBL := Lib.hid hbel
    have c0 : wr.cell? ⟨w.heap.size + 1, 0, none⟩ = some (.slice p m c) := hkG.cell 0 rfl
    have c1 : wr.cell? ⟨w.heap.size + 1, 1, none⟩ = some (.slice q kk d) := hkG.cell 1 rfl
    have hsz := hbel.size
    have hltG : w.heap.size + 1 < wr.heap.size := by omega
    clear hown hkR hkG hgs
    by_cases hi : i < n
    · cases gk with
      | zero => omega
      | succ k =>
        obtain ⟨b1, o1, rfl, hcell⟩ := HR.out (by omega)
        have hil : i < l.length := by rw [HL.out]; exact hi
        have q0 := hcell i _ (ed_at l i hil) 0 _ rfl
        have q1 := hcell i _ (ed_at l i hil) 1 _ rfl
        rw [← hbel.cell (World.block_lt_of_cell? w _ q0)] at q0
        rw [← hbel.cell (World.block_lt_of_cell? w _ q1)] at q1
        have htk := gr_take l i hil
        have hsm := run_small l i HS9.out
        obtain ⟨x, y, hxy⟩ : ∃ x y, l.getD i (0, 0) = (x, y) := ⟨_, _, rfl⟩
        rw [hxy] at q0 q1 htk
        simp only at q0 q1
        rw [Nat.add_zero] at q0
        rw [← Nat.add_assoc] at q1
        have HTK := Lib.hid htk
        have HSM := Lib.hid hsm
        clear hcell hil htk hsm hxy hbel
        go_wp2_with fail
        refine (gadds_any p q m c kk d (w.heap.size + 2) (Gr.run (l.take i)) x y _ (HGS.out.alloc _) (by simp; omega) HSM.out.2 HSM.out.1).mono ?_
        rintro e w2 ⟨p', m', c', q', k', d', hon2, rfl, hgs2, hb2⟩
        rw [← HTK.out] at hgs2
        have hb2' : Below wr.heap.size wr w2 := ((Below.refl _ _).alloc (Nat.le_refl _) _).trans (hb2.mono (by simp))
        have hbt : Below w.heap.size w w2 := HBL.out.trans (hb2'.mono hsz)
        have hkG2 := HKG.out.below hb2' HKG.out.lt
        have hkR2 := HKR.out.below hb2' HKR.out.lt
        have hown2 := row_below HO.out hb2'
        have HGS2 := Lib.hid hgs2
        have HB2 := Lib.hid hbt
        have HKG2 := Lib.hid hkG2
        have HKR2 := Lib.hid hkR2
        have HO2 := Lib.hid hown2
        have hlt2 : w.heap.size + 2 ≤ w2.heap.size := by have := hb2'.size; omega
        clear hgs2 hb2 hb2' hbt hkG2 hkR2 hown2
        have hdj2 : ∀ b, (Value.slice ep i ec).ownBlock = some b → (Value.slice p' m' c').ownBlock ≠ some b := by
          intro b hb hb2
          rcases hon2 b hb2 with h | h
          · exact HDJ.out b hb h
          · have := (HO.out.lt b hb).2
            simp at h
            omega
        have HDJ2 := Lib.hid hdj2
        have hX := Blk.new w2 25 #[.slice p' m' c', .slice q' k' d']
        obtain ⟨X, hXX⟩ : ∃ X, X = w2.heap.size := ⟨_, rfl⟩
        obtain ⟨w3, hw3⟩ : ∃ w3, w3 = w2.alloc (.cells #[.slice p' m' c', .slice q' k' d'] 25) := ⟨_, rfl⟩
        have hX3 : Blk w3 X 25 #[.slice p' m' c', .slice q' k' d'] := by rw [hw3, hXX]; exact hX
        have HX3 := Lib.hid hX3
        have HG3 : Hid (Blk w3 (w.heap.size + 1) 25 #[.slice p m c, .slice q kk d]) := Lib.hid (by rw [hw3]; exact HKG2.out.alloc _)
        have HR3 : Hid (Blk w3 w.heap.size 25 #[.slice none 0 0, .slice none 0 0]) := Lib.hid (by rw [hw3]; exact HKR2.out.alloc _)
        have HO3 : Hid (w3.ownsRow (w.heap.size + 2) 3 1 (.slice ep i ec) i xs) := Lib.hid (by rw [hw3]; exact HO2.out.alloc _)
        have HS3 : Hid (GsAt w3 (w.heap.size + 2) (.slice p' m' c') (.slice q' k' d') (Gr.run (l.take (i + 1)))) := Lib.hid (by rw [hw3]; exact HGS2.out.alloc _)
        have HB3 : Hid (Below w.heap.size w w3) := Lib.hid (by rw [hw3]; exact HB2.out.alloc (by omega) _)
        have HXZ : Hid (w.heap.size + 2 ≤ X) := Lib.hid (by rw [hXX]; exact hlt2)
        have hlt3 : w.heap.size + 2 ≤ w3.heap.size := by rw [hw3]; simp; omega
        have x0 : w3.cell? ⟨X, 0, none⟩ = some (.slice p' m' c') := hX3.cell 0 rfl
        have x1 : w3.cell? ⟨X, 1, none⟩ = some (.slice q' k' d') := hX3.cell 1 rfl
        have y0 : w3.cell? ⟨w.heap.size + 1, 0, none⟩ = some (.slice p m c) := HG3.out.cell 0 rfl
        have y1 : w3.cell? ⟨w.heap.size + 1, 1, none⟩ = some (.slice q kk d) := HG3.out.cell 1 rfl
        have z0 := HG3.out.free 0
        have z1 := HG3.out.free 1
        go_wp2_with fail
        rw [← hw3, ← hXX]
        obtain ⟨E0, hE0⟩ : ∃ E0, E0 = Gr.err (Gr.run (l.take i)) (x, y) := ⟨_, rfl⟩
        rw [← hE0]
        have h01 : 0 < 1 := by omega
        have hmx : i + 1 ≤ maxLen := by unfold maxLen; omega
        have hmy : (i + 1) * 8 ≤ 140737488355328 := by omega
        have hoc : ∀ u ∈ ([.int .i64 E0] : List Value), u.oneCell' = true := by simp [Value.oneCell']
        obtain ⟨i0, hi0, hz0, hz1, hz2⟩ := info_parts info_int
        have HI0 := Lib.hid hi0
        have HI1 := Lib.hid hz0
        have HI2 := Lib.hid hz1
        have HI3 := Lib.hid hz2
        have HOC := Lib.hid hoc
        clear hdj2 hX hXX hX3 hw3 hE0 hon2 hi0 hz0 hz1 hz2 hoc HDJ
        go_region_held3 (fun w' => w'.cell? ⟨X, 0, none⟩ = some (.slice p' m' c') ∧ w'.cell? ⟨X, 1, none⟩ = some (.slice q' k' d'))
          ((first | exact ⟨by assumption, by assumption⟩ | (refine ⟨?_, ?_⟩ <;> (repeat (first | with_reducible assumption | with_reducible refine drew_keep ?_ | with_reducible refine alloc_keep ?_ _ | with_reducible refine set_keep ?_ ?_ | omega | (have := HXZ.out; simp only []; omega))))))
          (first
            | (refine step_append_lies _ (by rfl) (.tmp 23) (.tmp 25) 23 (by rfl) (w.heap.size + 2) 3 i0 (.int .i64 0) 1 8 Tryd.underlying23 HI0.out HI1.out HI2.out HI3.out rfl h01 (.slice ep i ec) i xs (by rfl) ?_ _ 1 1 [.int .i64 E0] (by rfl) rfl ?_ HOC.out h01 hmx hmy ?_ _ rfl ?_
               focus ((repeat (first | with_reducible exact HO3.out | with_reducible refine World.ownsRow.alloc ?_ _ | with_reducible refine row_drew ?_ | with_reducible refine row_set ?_ ?_ _ | omega | (simp only []; omega))); done)
               focus (refine Cs.add ?_; (repeat (first | with_reducible exact Cs.new _ _ _ | (with_reducible refine Cs.new' ?_; (first | rfl | (simp; done))) | with_reducible refine Cs.allocd ?_ _ | with_reducible refine Cs.drewd ?_)); done)
               focus (first | omega | (simp; omega))
               intro gA capA w4 hown4 hgrow4 hat4 hlt4
               refine gof_cont (Z := w.heap.size + 2) (w0 := w) (B := w.heap.size) (xs := xs) (vv := .slice p' m' c') (ev := .slice q' k' d') (g := Gr.run (l.take (i + 1))) ?_ ?_ ?_ HDJ2.out ?_ (by omega) hown4 hgrow4 hat4 ?_
               focus ((repeat (first | with_reducible exact HO3.out | with_reducible refine World.ownsRow.alloc ?_ _ | with_reducible refine row_drew ?_ | with_reducible refine row_set ?_ ?_ _ | omega | (simp only []; omega))); done)
               focus ((repeat (first | with_reducible exact HS3.out | with_reducible refine GsAt.alloc ?_ _ | with_reducible refine GsAt.drew ?_ | with_reducible refine GsAt.set ?_ ?_ _ | omega | (simp only []; omega))); done)
               focus ((repeat (first | with_reducible exact HB3.out | with_reducible refine Below.drew ?_ | with_reducible refine Below.alloc ?_ ?_ _ | with_reducible refine Below.setCell ?_ ?_ _ | omega | (simp only []; omega) | (simp; omega))); done)
               focus (first | omega | (simp; omega))
               intro hS4 hdj4 hbk4 hbl4
               have kX := hbk4 X 25 #[.slice p' m' c', .slice q' k' d'] (by (repeat (first | with_reducible exact HX3.out | with_reducible exact HR3.out | with_reducible exact HG3.out | with_reducible refine Blk.alloc ?_ _ | with_reducible refine Blk.drew ?_ | (with_reducible refine Blk.other ?_ ?_ _) | (simp only []; omega) | (have := HXZ.out; simp only []; omega)))) (by decide)
               have kR := hbk4 w.heap.size 25 #[.slice none 0 0, .slice none 0 0] (by (repeat (first | with_reducible exact HX3.out | with_reducible exact HR3.out | with_reducible exact HG3.out | with_reducible refine Blk.alloc ?_ _ | with_reducible refine Blk.drew ?_ | (with_reducible refine Blk.other ?_ ?_ _) | (simp only []; omega) | (have := HXZ.out; simp only []; omega)))) (by decide)
               (first
                 | (have kG := hbk4 (w.heap.size + 1) 25 #[.slice p m c, .slice q kk d] (by (repeat (first | with_reducible exact HX3.out | with_reducible exact HR3.out | with_reducible exact HG3.out | with_reducible refine Blk.alloc ?_ _ | with_reducible refine Blk.drew ?_ | (with_reducible refine Blk.other ?_ ?_ _) | (simp only []; omega) | (have := HXZ.out; simp only []; omega)))) (by decide))
                 | (have kG := hbk4 (w.heap.size + 1) 25 #[.slice p' m' c', .slice q' k' d'] (by (repeat (first | with_reducible refine Blk.two HG3.out | with_reducible refine Blk.alloc ?_ _ | with_reducible refine Blk.drew ?_))) (by decide))
                 | fail)
               have x0 : w4.cell? ⟨X, 0, none⟩ = some (.slice p' m' c') := kX.cell 0 rfl
               have x1 : w4.cell? ⟨X, 1, none⟩ = some (.slice q' k' d') := kX.cell 1 rfl
               have y0 := kG.cell 0 rfl
               have y1 := kG.cell 1 rfl
               have z0 := kG.free 0
               have z1 := kG.free 1
               have HS4 := Lib.hid hS4
               have HD4 := Lib.hid hdj4
               have HB4 := Lib.hid hbl4
               have HO4 := Lib.hid hown4
               have HKR4 := Lib.hid kR
               have HKG4 := Lib.hid kG
               have hlt4 : w.heap.size + 2 ≤ w4.heap.size := Nat.le_trans (by first | omega | (simp; omega)) hgrow4.size
               clear hS4 hdj4 hbk4 hbl4 kX kR kG hown4 hgrow4 hat4)
            | fail)
        all_goals
          go_wp2_with fail
          go_roundg k
          case measure => omega
          case rel =>
            refine ⟨i + 1, _, _, xs ++ [.int .i64 E0], p', q', m', c', k', d', rfl, by go_num, by omega, ?_, ?_, ?_, ?_, ?_, ?_, HD4.out⟩
            · (repeat (first | with_reducible exact HO4.out | with_reducible refine row_drew ?_ | with_reducible refine row_set ?_ ?_ _ | (simp only []; omega)))
            · (repeat (first | with_reducible exact HKR4.out | with_reducible refine Blk.drew ?_ | with_reducible refine Blk.other ?_ ?_ _ | (simp only []; omega)))
            · (repeat (first | with_reducible exact HKG4.out | with_reducible refine Blk.two HKG4.out | with_reducible refine Blk.drew ?_))
            · (repeat (first | with_reducible exact HS4.out | with_reducible refine GsAt.drew ?_ | with_reducible refine GsAt.set ?_ ?_ _ | (simp only []; omega)))
            · (repeat (first | with_reducible exact HB4.out | with_reducible refine Below.drew ?_ | with_reducible refine Below.setCell ?_ ?_ _ | (simp only []; omega)))
            · first | exact hlt4 | (simp; omega)
    · obtain rfl : i = n := by omega
      have hd : decide ((i : Int) < (i : Int)) = false := by simp
      have hfin : l.take i = l := List.take_of_length_le (by rw [HL.out]; exact Nat.le_refl _)
      have HF := Lib.hid hfin
      have r0 : wr.cell? ⟨w.heap.size, 0, none⟩ = some (.slice none 0 0) := HKR.out.cell 0 rfl
      have r1 : wr.cell? ⟨w.heap.size, 1, none⟩ = some (.slice none 0 0) := HKR.out.cell 1 rfl
      have g0 := HKR.out.free 0
      have g1 := HKR.out.free 1
      clear hfin hbel
      go_wp2_with fail
      have h0 := fun u v => ((HKR.out.set 0 u).set 1 v).cell 0 (v := u) (by simp)
      have h1 := fun u v => ((HKR.out.set 0 u).set 1 v).cell 1 (v := v) (by simp)
      refine bodyPost_ret (v := .tuple #[.agg #[.slice p m c, .slice q kk d], .slice ep i ec]) (by simp [results, Tryd.results5, go_sem, h0, h1]) rfl ⟨_, _, _, rfl, ?_, ?_, ?_⟩
      · have h := ((HGS.out.set (p := ⟨w.heap.size, 0, none⟩) (by simp only []; omega) (.slice p m c)).set (p := ⟨w.heap.size, 1, none⟩) (by simp only []; omega) (.slice q kk d))
        rw [HF.out] at h
        exact h.sl
      · have h := ((HGS.out.set (p := ⟨w.heap.size, 0, none⟩) (by simp only []; omega) (.slice p m c)).set (p := ⟨w.heap.size, 1, none⟩) (by simp only []; omega) (.slice q kk d))
        rw [HF.out] at h
        exact h.es
      · exact (HBL.out.setCell (by simp only []; omega) _).setCell (by simp only []; omega) _
end Go.Proofs.YtdmkijdokmnicaaDoor
