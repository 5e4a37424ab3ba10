/- Walk of (spec.GRGraph).Add. -/
import Derived.Test.YtdmkijdokmnicaaDoorGrSpec
import Derived.Test.YtdmkijdokmnicaaDoorFull
import Derived.Test.YtdmkijdokmnicaaDoorStep
import Derived.Deep.DeepCutAuto
namespace Go.Proofs.YtdmkijdokmnicaaDoor
set_option linter.unusedVariables false
open Go.RowKit

theorem Blk.nxt {w w' : World} {b : Nat} {t : TypeId} {cs : Array Value} (h : Blk w b t cs) (hb : Below w.heap.size w w') : Blk w' b t cs := h.below hb h.lt
theorem owns_slice {w : World} {B : Nat} {e : TypeId} {size : Nat} {v : Value} {n : Nat} {xs : List Value} (h : w.ownsRow B e size v n xs) : ∃ p m c, v = .slice p m c := by
  rcases h.2 with ⟨h0, _⟩ | ⟨g, cap, cur, h0, _⟩ <;> exact ⟨_, _, _, h0⟩
theorem row_set {w : World} {B : Nat} {e : TypeId} {size : Nat} {v : Value} {n : Nat} {xs : List Value} (h : w.ownsRow B e size v n xs) {p : Addr} (hp : p.block < B) (u : Value) : (w.setCell p u).ownsRow B e size v n xs := by
  refine ⟨h.1, ?_⟩
  rcases h.2 with h0 | ⟨g, cap, cur, rfl, hbg, hg, r⟩
  · exact .inl h0
  · exact .inr ⟨g, cap, cur, rfl, hbg, (Below.heap_setCell w p u g (by omega)).trans hg, r⟩
theorem Sl.next {w w' : World} {v : Value} {vs : List Value} (h : Sl w v vs) (hb : Below w.heap.size w w') : Sl w' v vs := h.below rfl hb
theorem Sl.allocd {w : World} {v : Value} {vs : List Value} (h : Sl w v vs) (o : Obj) : Sl (w.alloc o) v vs := h.below rfl ((Below.refl _ _).alloc (Nat.le_refl _) _)
theorem Sl.drewd {w : World} {v : Value} {vs : List Value} (h : Sl w v vs) : Sl w.drew v vs := h.below rfl (Below.refl _ _).drew
/-- the cells of block g, from the first on -/
def Cs (w : World) (g : Nat) (cs : List Value) : Prop := ∀ j u, cs[j]? = some u → w.cell? ⟨g, j, none⟩ = some u
theorem Cs.next {w w' : World} {g : Nat} {cs : List Value} (h : Cs w g cs) (hb : Below w.heap.size w w') : Cs w' g cs := fun j u hu => (hb.cell (World.block_lt_of_cell? w _ (h j u hu))).trans (h j u hu)
theorem Cs.allocd {w : World} {g : Nat} {cs : List Value} (h : Cs w g cs) (o : Obj) : Cs (w.alloc o) g cs := h.next ((Below.refl _ _).alloc (Nat.le_refl _) _)
theorem Cs.drewd {w : World} {g : Nat} {cs : List Value} (h : Cs w g cs) : Cs w.drew g cs := h
theorem Cs.new (w : World) (cs : List Value) (t : TypeId) : Cs (w.alloc (.cells cs.toArray t)) w.heap.size cs := fun j u hu => (Blk.new w t cs.toArray).cell j (by simpa using hu)
theorem Cs.new' {w : World} {g : Nat} {cs : List Value} {t : TypeId} (h : g = w.heap.size) : Cs (w.alloc (.cells cs.toArray t)) g cs := by subst h; exact Cs.new w cs t
theorem Cs.add {w : World} {g : Nat} {cs : List Value} (h : Cs w g cs) : ∀ j u, cs[j]? = some u → w.cell? ((⟨g, 0, none⟩ : Addr).add j) = some u := fun j u hu => by rw [addr_add, Nat.zero_add]; exact h j u hu
theorem Cs.sl {w : World} {g : Nat} {cs : List Value} (h : Cs w g cs) (n : Nat) (hn : cs.length = n) (hm : n ≤ maxLen) : Sl w (.slice (some ⟨g, 0, none⟩) n n) cs := ⟨_, n, n, rfl, hn, Nat.le_refl _, hm, fun _ => ⟨g, 0, rfl, fun i u hu => by rw [Nat.zero_add]; exact h i u hu⟩⟩
theorem EsAt.allocd {w : World} {v : Value} {E : List Gr.Ed} (h : EsAt w v E) (o : Obj) : EsAt (w.alloc o) v E := h.below ((Below.refl _ _).alloc (Nat.le_refl _) _)
theorem EsAt.drewd {w : World} {v : Value} {E : List Gr.Ed} (h : EsAt w v E) : EsAt w.drew v E := h.below (Below.refl _ _).drew
theorem Below.next {B : Nat} {w W w' : World} (h : Below B w W) (hb : Below W.heap.size W w') (hB : B ≤ W.heap.size) : Below B w w' := h.trans (hb.mono hB)

theorem info_edge : (Tryd.prog.info? 37).map (fun i => (i.zero, i.size, i.bytes)) = some (some (.agg #[.int .i64 0, .int .i64 0]), 2, 16) := by kernel_rfl
def edFlat (E : List Gr.Ed) : List Value := E.flatMap edRow
theorem edFlat_len (E : List Gr.Ed) : (edFlat E).length = E.length * 2 := by
  induction E with
  | nil => rfl
  | cons a r ih =>
    unfold edFlat at ih ⊢
    rw [List.flatMap_cons, List.length_append, ih, List.length_cons]
    simp [edRow]; omega
theorem edFlat_at (E : List Gr.Ed) (i : Nat) (x : Gr.Ed) (h : E[i]? = some x) : (edFlat E)[i * 2]? = some (.int .i64 x.1) ∧ (edFlat E)[i * 2 + 1]? = some (.int .i64 x.2) := by
  induction E generalizing i with
  | nil => simp at h
  | cons a r ih =>
    have e : edFlat (a :: r) = .int .i64 a.1 :: .int .i64 a.2 :: edFlat r := by simp [edFlat, edRow]
    rw [e]
    cases i with
    | zero =>
      simp at h
      subst h
      exact ⟨rfl, rfl⟩
    | succ i =>
      simp at h
      have := ih i h
      rw [show (i + 1) * 2 = i * 2 + 1 + 1 by omega]
      simpa using this
theorem edFlat_cells {w : World} {g o : Nat} {E : List Gr.Ed} (h : ∀ i x, E[i]? = some x → w.cell? ⟨g, o + i * 2, none⟩ = some (.int .i64 x.1) ∧ w.cell? ⟨g, o + i * 2 + 1, none⟩ = some (.int .i64 x.2)) :
    ∀ j v, (edFlat E)[j]? = some v → w.cell? ((⟨g, o, none⟩ : Addr).add j) = some v := by
  intro j v hv
  rw [addr_add]
  have hj : j < E.length * 2 := by
    have := (List.getElem?_eq_some_iff.1 hv).1
    rwa [edFlat_len] at this
  have hi : j / 2 < E.length := by omega
  obtain ⟨x, hx⟩ : ∃ x, E[j / 2]? = some x := ⟨E[j / 2], by simp [hi]⟩
  obtain ⟨h1, h2⟩ := h _ _ hx
  obtain ⟨k1, k2⟩ := edFlat_at E _ _ hx
  rcases Nat.mod_two_eq_zero_or_one j with hm | hm
  · have e : j / 2 * 2 = j := by omega
    rw [e] at h1 k1
    rw [hv] at k1
    injection k1 with k1
    rw [k1]; exact h1
  · have e : j / 2 * 2 + 1 = j := by omega
    rw [e] at k2
    rw [show o + j / 2 * 2 + 1 = o + j by omega] at h2
    rw [hv] at k2
    injection k2 with k2
    rw [k2]; exact h2
theorem edFlat_snoc (E : List Gr.Ed) (x y : Int) : edFlat (E ++ [(x, y)]) = edFlat E ++ [.int .i64 x, .int .i64 y] := by simp [edFlat, edRow]
theorem EsAt.holds {w : World} {a0 : Option Addr} {n cap : Nat} {E : List Gr.Ed} (h : EsAt w (.slice a0 n cap) E) : (a0 = none ∧ n = 0) ∨ ∃ b, a0 = some b ∧ ∀ j v, (edFlat E)[j]? = some v → w.cell? (b.add j) = some v := by
  rcases h with ⟨h, _⟩ | ⟨g, o, m, c, h, _, _, _, _, h5⟩
  · simp only [Value.slice.injEq] at h
    exact .inl ⟨h.1, h.2.1⟩
  · simp only [Value.slice.injEq] at h
    exact .inr ⟨_, h.1, edFlat_cells h5⟩
theorem EsAt.of_owns {w : World} {B g n cap : Nat} {E : List Gr.Ed} (h : w.ownsRow B 37 2 (.slice (some ⟨g, 0, none⟩) n cap) n (edFlat E)) (h0 : 0 < n) : EsAt w (.slice (some ⟨g, 0, none⟩) n cap) E := by
  have hl := h.1
  rw [edFlat_len] at hl
  have hn : E.length = n := by omega
  have hc := h.cells (g := g) rfl
  rcases h.2 with ⟨e, _⟩ | ⟨g', cap', cur, e, hbg, hg, hnc, hcm, _⟩
  · cases e
  · simp only [Value.slice.injEq, Option.some.injEq, Addr.mk.injEq, and_true, true_and] at e
    obtain ⟨rfl, rfl⟩ := e
    refine .inr ⟨g, 0, n, cap, rfl, hn, h0, hnc, hcm, fun i x hx => ?_⟩
    obtain ⟨k1, k2⟩ := edFlat_at E i x hx
    have q1 := hc _ _ k1
    have q2 := hc _ _ k2
    rw [addr_add] at q1 q2
    rw [Nat.add_assoc]
    exact ⟨q1, q2⟩

/-- the row that an append has made, whatever its block is spelled -/
def AppRow (w : World) (Z cap : Nat) (E : List Gr.Ed) (x y : Int) (g n : Nat) : Prop := 0 < n ∧ w.ownsRow Z 37 2 (.slice (some ⟨g, 0, none⟩) n cap) n (edFlat (E ++ [(x, y)]))
theorem app_row {w : World} {B Z g n cap : Nat} {E : List Gr.Ed} {x y : Int} (h : w.ownsRow B 37 2 (.slice (some ⟨g, 0, none⟩) (n + 1) cap) (n + 1) (edFlat E ++ [.int .i64 x, .int .i64 y])) (hZ : Z ≤ B) : AppRow w Z cap E x y g (n + 1) := by
  rw [← edFlat_snoc] at h
  exact ⟨by omega, row_weaken h hZ⟩
theorem AppRow.cast {w : World} {Z cap g n g' n' : Nat} {E : List Gr.Ed} {x y : Int} (h : AppRow w Z cap E x y g n) (hg : g' = g) (hn : n' = n) : AppRow w Z cap E x y g' n' := by subst hg; subst hn; exact h
theorem AppRow.es {w : World} {Z cap g n : Nat} {E : List Gr.Ed} {x y : Int} (h : AppRow w Z cap E x y g n) : EsAt w (.slice (some ⟨g, 0, none⟩) n cap) (E ++ [(x, y)]) := EsAt.of_owns h.2 h.1
theorem AppRow.set {w : World} {Z cap g n : Nat} {E : List Gr.Ed} {x y : Int} (h : AppRow w Z cap E x y g n) {p : Addr} (hp : p.block < Z) (u : Value) : AppRow (w.setCell p u) Z cap E x y g n := ⟨h.1, row_set h.2 hp u⟩
theorem AppRow.allocd {w : World} {Z cap g n : Nat} {E : List Gr.Ed} {x y : Int} (h : AppRow w Z cap E x y g n) (o : Obj) : AppRow (w.alloc o) Z cap E x y g n := ⟨h.1, h.2.alloc o⟩
theorem AppRow.drewd {w : World} {Z cap g n : Nat} {E : List Gr.Ed} {x y : Int} (h : AppRow w Z cap E x y g n) : AppRow w.drew Z cap E x y g n := h
theorem AppRow.next {w w' : World} {Z cap g n : Nat} {E : List Gr.Ed} {x y : Int} (h : AppRow w Z cap E x y g n) (hb : Below w.heap.size w w') : AppRow w' Z cap E x y g n := ⟨h.1, row_below h.2 hb⟩

theorem AppRow.weak {w : World} {Z Z' cap g n : Nat} {E : List Gr.Ed} {x y : Int} (h : AppRow w Z cap E x y g n) (hZ : Z' ≤ Z) : AppRow w Z' cap E x y g n := ⟨h.1, row_weaken h.2 hZ⟩
def AddNew (V : List Int) (E : List Gr.Ed) (x y : Int) (w : World) (e : Ending) (w' : World) : Prop :=
  ∃ vv g n cap, e = .returned (.tuple #[.agg #[vv, .slice (some ⟨g, 0, none⟩) n cap], .int .i64 0]) ∧ w'.ownsRow w.heap.size 3 1 vv (Zs.addAll V [x, y]).length (i64s (Zs.addAll V [x, y])) ∧ AppRow w' w.heap.size cap E x y g n ∧ Below w.heap.size w w'

set_option maxRecDepth 100000 in
set_option maxHeartbeats 4000000 in
theorem gadds_nil (vv : Value) (V : List Int) (x y : Int) (w : World)  (hv : Sl w vv (i64s V)) (he : EsAt w (.slice none 0 0) []) (h9 : ([] : List Gr.Ed).length ≤ 1000) (h8 : V.length ≤ 1000) (hne : x ≠ y) (hj : ¬ Gr.joined [] x y) :
    Calls Tryd.prog 13 #[.agg #[vv, .slice none 0 0], .agg #[.int .i64 x, .int .i64 y]] w (AddNew V [] x y w) := by
  skip
  have hxy : (x == y) = false := by simpa using hne
  have HV := Lib.hid hv
  have HE := Lib.hid he
  have hjj : decide (Gr.joined [] x y) = false := by simpa using hj
  have HJ := Lib.hid (fun w2 (hb : Below w.heap.size w w2) => joined_any vv (.slice none 0 0) [] x y w2 (he.below hb) h9)
  rw [hjj] at HJ
  have h8b : V.length ≤ 100000 := by omega
  have hm2 : 2 ≤ maxLen := by unfold maxLen; omega
  have h2b : ([x, y] : List Int).length ≤ 100000 := by simp
  clear hv he hne hj hjj h9 h8 
  go_enter Tryd.func13, Tryd.ntmps13
  go_wp2_with fail
  have hb0 : Below w.heap.size w (((w.alloc (.cells #[vv, .slice none 0 0] 25)).alloc (.cells #[.int .i64 x, .int .i64 y] 37)).alloc (.cells #[.slice none 0 0, .slice none 0 0] 25)) := (((Below.refl _ _).alloc (Nat.le_refl _) _).alloc (by simp) _).alloc (by simp; omega) _
  refine (HJ.out _ hb0).mono ?_
  rintro e w3 ⟨rfl, hb3⟩
  obtain ⟨hc3, hf3⟩ := bcell hb3
  have HV3 := Lib.hid (HV.out.below rfl (hb0.trans (hb3.mono (by simp; omega))))
  have HE3 := Lib.hid (HE.out.below (hb0.trans (hb3.mono (by simp; omega))))
  have hw3 : w.heap.size + 3 ≤ w3.heap.size := by have := hb3.size; simp at this; omega
  have HB3 := Lib.hid (hb0.trans (hb3.mono (by simp; omega)))
  have kA : Blk w3 w.heap.size 25 #[vv, .slice none 0 0] := (((Blk.new w 25 #[vv, .slice none 0 0]).alloc _).alloc _).below hb3 (by simp; omega)
  have kB : Blk w3 (w.heap.size + 1) 37 #[.int .i64 x, .int .i64 y] := by simpa using ((Blk.new (w.alloc (.cells #[vv, .slice none 0 0] 25)) 37 #[.int .i64 x, .int .i64 y]).alloc _).below hb3 (by simp)
  have kR : Blk w3 (w.heap.size + 1 + 1) 25 #[.slice none 0 0, .slice none 0 0] := by simpa using (Blk.new ((w.alloc (.cells #[vv, .slice none 0 0] 25)).alloc (.cells #[.int .i64 x, .int .i64 y] 37)) 25 #[.slice none 0 0, .slice none 0 0]).below hb3 (by simp)
  have q0 : w3.cell? ⟨w.heap.size, 0, none⟩ = some vv := kA.cell 0 rfl
  have q1 : w3.cell? ⟨w.heap.size, 1, none⟩ = some (.slice none 0 0) := kA.cell 1 rfl
  have q2 : w3.cell? ⟨w.heap.size + 1, 0, none⟩ = some (.int .i64 x) := kB.cell 0 rfl
  have q3 : w3.cell? ⟨w.heap.size + 1, 1, none⟩ = some (.int .i64 y) := kB.cell 1 rfl
  have r0 : w3.cell? ⟨w.heap.size + 1 + 1, 0, none⟩ = some (.slice none 0 0) := kR.cell 0 rfl
  have r1 : w3.cell? ⟨w.heap.size + 1 + 1, 1, none⟩ = some (.slice none 0 0) := kR.cell 1 rfl
  have g0 := kR.free 0
  have g1 := kR.free 1
  have HA := Lib.hid kA
  have HB := Lib.hid kB
  have HR := Lib.hid kR
  have hlt : w.heap.size + 1 + 1 < w3.heap.size := kR.lt
  have hx0 : 0 < 1 := by omega
  have hx02 : 0 < 2 := by omega
  have hx1 : 0 + 1 ≤ maxLen := by unfold maxLen; omega
  have hx2 : (0 + 1) * 16 ≤ 140737488355328 := by omega
  clear hb0 hb3 hc3 hf3 kA kB kR
  go_wp2_with fail
  skip
  go_region_held3 (fun w' => w'.cell? ⟨w.heap.size, 0, none⟩ = some vv ∧ w'.cell? ⟨w.heap.size, 1, none⟩ = some (.slice none 0 0) ∧ w'.cell? ⟨w.heap.size + 1, 0, none⟩ = some (.int .i64 x) ∧ w'.cell? ⟨w.heap.size + 1, 1, none⟩ = some (.int .i64 y))
    ((first | exact ⟨by assumption, by assumption, by assumption, by assumption⟩ | (refine ⟨?_, ?_, ?_, ?_⟩ <;> (repeat (first | with_reducible assumption | with_reducible refine drew_keep ?_ | with_reducible refine alloc_keep ?_ _ | with_reducible refine set_keep ?_ ?_ | (simp only []; omega))))))
    (first
      | (with_reducible refine Calls.mono (stwith_any _ _ V [x, y] _ ?_ ?_ h8b h2b) ?_
         focus ((repeat (first | with_reducible exact HV3.out | with_reducible refine Sl.allocd ?_ _ | with_reducible refine Sl.drewd ?_ | with_reducible refine Sl.next ?_ HBA.out | with_reducible refine Sl.next ?_ HBS.out)); done)
         focus (refine Cs.sl (cs := [.int .i64 x, .int .i64 y]) ?_ 2 rfl hm2; (repeat (first | with_reducible exact Cs.new _ _ _ | (with_reducible refine Cs.new' ?_; (first | rfl | (simp; done))) | with_reducible refine Cs.allocd ?_ _ | with_reducible refine Cs.drewd ?_ | with_reducible refine Cs.next ?_ HBA.out | with_reducible refine Cs.next ?_ HBS.out)); done)
         rintro e wS ⟨vS, rfl, hslS, hbS⟩
         obtain ⟨aS, nS, cS, rfl⟩ := owns_slice hslS
         have hslw := row_weaken (B' := w.heap.size + 3) hslS (by first | omega | (simp; omega))
         have HBS := Lib.hid hbS
         have kA : Blk wS w.heap.size 25 #[vv, .slice none 0 0] := by (repeat (first | with_reducible exact HA.out | with_reducible refine Blk.alloc ?_ _ | with_reducible refine Blk.drew ?_ | with_reducible refine Blk.nxt ?_ HBA.out | with_reducible refine Blk.nxt ?_ HBS.out))
         have kB : Blk wS (w.heap.size + 1) 37 #[.int .i64 x, .int .i64 y] := by (repeat (first | with_reducible exact HB.out | with_reducible refine Blk.alloc ?_ _ | with_reducible refine Blk.drew ?_ | with_reducible refine Blk.nxt ?_ HBA.out | with_reducible refine Blk.nxt ?_ HBS.out))
         have kR : Blk wS (w.heap.size + 1 + 1) 25 #[.slice none 0 0, .slice none 0 0] := by (repeat (first | with_reducible exact HR.out | with_reducible refine Blk.alloc ?_ _ | with_reducible refine Blk.drew ?_ | with_reducible refine Blk.nxt ?_ HBA.out | with_reducible refine Blk.nxt ?_ HBS.out))
         have q0 : wS.cell? ⟨w.heap.size, 0, none⟩ = some vv := kA.cell 0 rfl
         have q1 : wS.cell? ⟨w.heap.size, 1, none⟩ = some (.slice none 0 0) := kA.cell 1 rfl
         have q2 : wS.cell? ⟨w.heap.size + 1, 0, none⟩ = some (.int .i64 x) := kB.cell 0 rfl
         have q3 : wS.cell? ⟨w.heap.size + 1, 1, none⟩ = some (.int .i64 y) := kB.cell 1 rfl
         have r0 : wS.cell? ⟨w.heap.size + 1 + 1, 0, none⟩ = some (.slice none 0 0) := kR.cell 0 rfl
         have r1 : wS.cell? ⟨w.heap.size + 1 + 1, 1, none⟩ = some (.slice none 0 0) := kR.cell 1 rfl
         have g0 := kR.free 0
         have g1 := kR.free 1
         have hlt := kR.lt
         have HRK := Lib.hid kR
         clear kA kB kR
         have HVS := Lib.hid hslw
         clear hslS hbS hslw)
      | (refine step_append_full (by rfl) (.tmp 35) (.tmp 37) 22 (by rfl) 37 (.agg #[.int .i64 0, .int .i64 0]) 2 16 Tryd.underlying22 info_edge rfl hx02 none 0 (edFlat []) rfl (by rfl) ?_ _ 1 1 [.int .i64 x, .int .i64 y] (by rfl) rfl ?_ hx0 hx1 hx2 ?_
         focus (refine EsAt.holds (cap := 0) ?_; (repeat (first | with_reducible exact HE3.out | with_reducible refine EsAt.allocd ?_ _ | with_reducible refine EsAt.drewd ?_ | with_reducible refine EsAt.below ?_ HBA.out | with_reducible refine EsAt.below ?_ HBS.out)); done)
         focus (refine Cs.add ?_; (repeat (first | with_reducible exact Cs.new _ _ _ | (with_reducible refine Cs.new' ?_; (first | rfl | (simp; done))) | with_reducible refine Cs.allocd ?_ _ | with_reducible refine Cs.drewd ?_ | with_reducible refine Cs.next ?_ HBA.out | with_reducible refine Cs.next ?_ HBS.out)); done)
         intro capA wA howA hbA hltA
         have howw := app_row (Z := w.heap.size + 3) howA (by first | omega | (simp; omega))
         have HBA := Lib.hid hbA
         have kA : Blk wA w.heap.size 25 #[vv, .slice none 0 0] := by (repeat (first | with_reducible exact HA.out | with_reducible refine Blk.alloc ?_ _ | with_reducible refine Blk.drew ?_ | with_reducible refine Blk.nxt ?_ HBA.out | with_reducible refine Blk.nxt ?_ HBS.out))
         have kB : Blk wA (w.heap.size + 1) 37 #[.int .i64 x, .int .i64 y] := by (repeat (first | with_reducible exact HB.out | with_reducible refine Blk.alloc ?_ _ | with_reducible refine Blk.drew ?_ | with_reducible refine Blk.nxt ?_ HBA.out | with_reducible refine Blk.nxt ?_ HBS.out))
         have kR : Blk wA (w.heap.size + 1 + 1) 25 #[.slice none 0 0, .slice none 0 0] := by (repeat (first | with_reducible exact HR.out | with_reducible refine Blk.alloc ?_ _ | with_reducible refine Blk.drew ?_ | with_reducible refine Blk.nxt ?_ HBA.out | with_reducible refine Blk.nxt ?_ HBS.out))
         have q0 : wA.cell? ⟨w.heap.size, 0, none⟩ = some vv := kA.cell 0 rfl
         have q1 : wA.cell? ⟨w.heap.size, 1, none⟩ = some (.slice none 0 0) := kA.cell 1 rfl
         have q2 : wA.cell? ⟨w.heap.size + 1, 0, none⟩ = some (.int .i64 x) := kB.cell 0 rfl
         have q3 : wA.cell? ⟨w.heap.size + 1, 1, none⟩ = some (.int .i64 y) := kB.cell 1 rfl
         have r0 : wA.cell? ⟨w.heap.size + 1 + 1, 0, none⟩ = some (.slice none 0 0) := kR.cell 0 rfl
         have r1 : wA.cell? ⟨w.heap.size + 1 + 1, 1, none⟩ = some (.slice none 0 0) := kR.cell 1 rfl
         have g0 := kR.free 0
         have g1 := kR.free 1
         have hlt := kR.lt
         have HRK := Lib.hid kR
         clear kA kB kR
         have HEA := Lib.hid howw
         clear howA hbA hltA howw)
      | fail)
  all_goals
    go_wp2_with fail
    have h0 := fun u v => ((HRK.out.set 0 u).set 1 v).cell 0 (v := u) (by simp)
    have h1 := fun u v => ((HRK.out.set 0 u).set 1 v).cell 1 (v := v) (by simp)
    refine bodyPost_ret (v := .tuple #[.agg #[_, _], .int .i64 0]) (by simp [results, Tryd.results13, go_sem, h0, h1]; exact ⟨rfl, rfl, rfl, rfl⟩) rfl ⟨_, _, _, _, rfl, ?_, ?_, ?_⟩
    · refine row_weaken (B := w.heap.size + 3) ?_ (by omega)
      (repeat (first | with_reducible exact HVS.out | with_reducible refine World.ownsRow.alloc ?_ _ | with_reducible refine row_drew ?_ | with_reducible refine row_set ?_ ?_ _ | with_reducible refine row_below ?_ HBA.out | with_reducible refine row_below ?_ HBS.out | omega | (simp only []; omega) | (simp; done) | (simp; omega)))
    · refine AppRow.weak (Z := w.heap.size + 3) ?_ (by omega)
      (repeat (first | (with_reducible refine AppRow.cast HEA.out ?_ ?_ <;> (first | rfl | omega | (simp only []; omega) | (simp; done) | (simp; omega))) | with_reducible refine AppRow.allocd ?_ _ | with_reducible refine AppRow.drewd ?_ | with_reducible refine AppRow.set ?_ ?_ _ | with_reducible refine AppRow.next ?_ HBA.out | with_reducible refine AppRow.next ?_ HBS.out | omega | (simp only []; omega) | (simp; done) | (simp; omega)))
    · (repeat (first | with_reducible exact HB3.out | with_reducible refine Below.drew ?_ | with_reducible refine Below.alloc ?_ ?_ _ | with_reducible refine Below.setCell ?_ ?_ _ | with_reducible refine Below.next ?_ HBA.out ?_ | with_reducible refine Below.next ?_ HBS.out ?_ | omega | (simp only []; omega) | (simp; done) | (simp; omega)))

set_option maxRecDepth 100000 in
set_option maxHeartbeats 4000000 in
theorem gadds_some (vv : Value) (V : List Int) (E : List Gr.Ed) (x y : Int) (w : World) (g o n cap : Nat) (hn : E.length = n) (h0n : 0 < n) (hnc : n ≤ cap) (hcm : cap ≤ maxLen) (hv : Sl w vv (i64s V)) (he : EsAt w (.slice (some ⟨g, o, none⟩) n cap) E) (h9 : (E : List Gr.Ed).length ≤ 1000) (h8 : V.length ≤ 1000) (hne : x ≠ y) (hj : ¬ Gr.joined E x y) :
    Calls Tryd.prog 13 #[.agg #[vv, .slice (some ⟨g, o, none⟩) n cap], .agg #[.int .i64 x, .int .i64 y]] w (AddNew V E x y w) := by
  have HFL := Lib.hid (show (edFlat E).length = n * 2 by rw [edFlat_len, hn])
  have hn9 : n ≤ 1000 := by omega
  have hcm2 : cap ≤ 9223372036854775807 := by unfold maxLen at hcm; omega
  have hxy : (x == y) = false := by simpa using hne
  have HV := Lib.hid hv
  have HE := Lib.hid he
  have hjj : decide (Gr.joined E x y) = false := by simpa using hj
  have HJ := Lib.hid (fun w2 (hb : Below w.heap.size w w2) => joined_any vv (.slice (some ⟨g, o, none⟩) n cap) E x y w2 (he.below hb) h9)
  rw [hjj] at HJ
  have h8b : V.length ≤ 100000 := by omega
  have hm2 : 2 ≤ maxLen := by unfold maxLen; omega
  have h2b : ([x, y] : List Int).length ≤ 100000 := by simp
  clear hv he hne hj hjj h9 h8 hn hcm
  go_enter Tryd.func13, Tryd.ntmps13
  go_wp2_with fail
  have hb0 : Below w.heap.size w (((w.alloc (.cells #[vv, .slice (some ⟨g, o, none⟩) n cap] 25)).alloc (.cells #[.int .i64 x, .int .i64 y] 37)).alloc (.cells #[.slice none 0 0, .slice none 0 0] 25)) := (((Below.refl _ _).alloc (Nat.le_refl _) _).alloc (by simp) _).alloc (by simp; omega) _
  refine (HJ.out _ hb0).mono ?_
  rintro e w3 ⟨rfl, hb3⟩
  obtain ⟨hc3, hf3⟩ := bcell hb3
  have HV3 := Lib.hid (HV.out.below rfl (hb0.trans (hb3.mono (by simp; omega))))
  have HE3 := Lib.hid (HE.out.below (hb0.trans (hb3.mono (by simp; omega))))
  have hw3 : w.heap.size + 3 ≤ w3.heap.size := by have := hb3.size; simp at this; omega
  have HB3 := Lib.hid (hb0.trans (hb3.mono (by simp; omega)))
  have kA : Blk w3 w.heap.size 25 #[vv, .slice (some ⟨g, o, none⟩) n cap] := (((Blk.new w 25 #[vv, .slice (some ⟨g, o, none⟩) n cap]).alloc _).alloc _).below hb3 (by simp; omega)
  have kB : Blk w3 (w.heap.size + 1) 37 #[.int .i64 x, .int .i64 y] := by simpa using ((Blk.new (w.alloc (.cells #[vv, .slice (some ⟨g, o, none⟩) n cap] 25)) 37 #[.int .i64 x, .int .i64 y]).alloc _).below hb3 (by simp)
  have kR : Blk w3 (w.heap.size + 1 + 1) 25 #[.slice none 0 0, .slice none 0 0] := by simpa using (Blk.new ((w.alloc (.cells #[vv, .slice (some ⟨g, o, none⟩) n cap] 25)).alloc (.cells #[.int .i64 x, .int .i64 y] 37)) 25 #[.slice none 0 0, .slice none 0 0]).below hb3 (by simp)
  have q0 : w3.cell? ⟨w.heap.size, 0, none⟩ = some vv := kA.cell 0 rfl
  have q1 : w3.cell? ⟨w.heap.size, 1, none⟩ = some (.slice (some ⟨g, o, none⟩) n cap) := kA.cell 1 rfl
  have q2 : w3.cell? ⟨w.heap.size + 1, 0, none⟩ = some (.int .i64 x) := kB.cell 0 rfl
  have q3 : w3.cell? ⟨w.heap.size + 1, 1, none⟩ = some (.int .i64 y) := kB.cell 1 rfl
  have r0 : w3.cell? ⟨w.heap.size + 1 + 1, 0, none⟩ = some (.slice none 0 0) := kR.cell 0 rfl
  have r1 : w3.cell? ⟨w.heap.size + 1 + 1, 1, none⟩ = some (.slice none 0 0) := kR.cell 1 rfl
  have g0 := kR.free 0
  have g1 := kR.free 1
  have HA := Lib.hid kA
  have HB := Lib.hid kB
  have HR := Lib.hid kR
  have hlt : w.heap.size + 1 + 1 < w3.heap.size := kR.lt
  have hx0 : 0 < 1 := by omega
  have hx02 : 0 < 2 := by omega
  have hx1 : n + 1 ≤ maxLen := by unfold maxLen; omega
  have hx2 : (n + 1) * 16 ≤ 140737488355328 := by omega
  clear hb0 hb3 hc3 hf3 kA kB kR
  go_wp2_with fail
  have y0 : (0 : Int) ≤ (n : Int) := by omega
  have y1 : (n : Int) ≤ (cap : Int) := by omega
  have y2 : (cap : Int) ≤ 9223372036854775807 := by omega
  go_region_held3 (fun w' => w'.cell? ⟨w.heap.size, 0, none⟩ = some vv ∧ w'.cell? ⟨w.heap.size, 1, none⟩ = some (.slice (some ⟨g, o, none⟩) n cap) ∧ w'.cell? ⟨w.heap.size + 1, 0, none⟩ = some (.int .i64 x) ∧ w'.cell? ⟨w.heap.size + 1, 1, none⟩ = some (.int .i64 y))
    ((first | exact ⟨by assumption, by assumption, by assumption, by assumption⟩ | (refine ⟨?_, ?_, ?_, ?_⟩ <;> (repeat (first | with_reducible assumption | with_reducible refine drew_keep ?_ | with_reducible refine alloc_keep ?_ _ | with_reducible refine set_keep ?_ ?_ | (simp only []; omega))))))
    (first
      | (with_reducible refine Calls.mono (stwith_any _ _ V [x, y] _ ?_ ?_ h8b h2b) ?_
         focus ((repeat (first | with_reducible exact HV3.out | with_reducible refine Sl.allocd ?_ _ | with_reducible refine Sl.drewd ?_ | with_reducible refine Sl.next ?_ HBA.out | with_reducible refine Sl.next ?_ HBS.out)); done)
         focus (refine Cs.sl (cs := [.int .i64 x, .int .i64 y]) ?_ 2 rfl hm2; (repeat (first | with_reducible exact Cs.new _ _ _ | (with_reducible refine Cs.new' ?_; (first | rfl | (simp; done))) | with_reducible refine Cs.allocd ?_ _ | with_reducible refine Cs.drewd ?_ | with_reducible refine Cs.next ?_ HBA.out | with_reducible refine Cs.next ?_ HBS.out)); done)
         rintro e wS ⟨vS, rfl, hslS, hbS⟩
         obtain ⟨aS, nS, cS, rfl⟩ := owns_slice hslS
         have hslw := row_weaken (B' := w.heap.size + 3) hslS (by first | omega | (simp; omega))
         have HBS := Lib.hid hbS
         have kA : Blk wS w.heap.size 25 #[vv, .slice (some ⟨g, o, none⟩) n cap] := by (repeat (first | with_reducible exact HA.out | with_reducible refine Blk.alloc ?_ _ | with_reducible refine Blk.drew ?_ | with_reducible refine Blk.nxt ?_ HBA.out | with_reducible refine Blk.nxt ?_ HBS.out))
         have kB : Blk wS (w.heap.size + 1) 37 #[.int .i64 x, .int .i64 y] := by (repeat (first | with_reducible exact HB.out | with_reducible refine Blk.alloc ?_ _ | with_reducible refine Blk.drew ?_ | with_reducible refine Blk.nxt ?_ HBA.out | with_reducible refine Blk.nxt ?_ HBS.out))
         have kR : Blk wS (w.heap.size + 1 + 1) 25 #[.slice none 0 0, .slice none 0 0] := by (repeat (first | with_reducible exact HR.out | with_reducible refine Blk.alloc ?_ _ | with_reducible refine Blk.drew ?_ | with_reducible refine Blk.nxt ?_ HBA.out | with_reducible refine Blk.nxt ?_ HBS.out))
         have q0 : wS.cell? ⟨w.heap.size, 0, none⟩ = some vv := kA.cell 0 rfl
         have q1 : wS.cell? ⟨w.heap.size, 1, none⟩ = some (.slice (some ⟨g, o, none⟩) n cap) := kA.cell 1 rfl
         have q2 : wS.cell? ⟨w.heap.size + 1, 0, none⟩ = some (.int .i64 x) := kB.cell 0 rfl
         have q3 : wS.cell? ⟨w.heap.size + 1, 1, none⟩ = some (.int .i64 y) := kB.cell 1 rfl
         have r0 : wS.cell? ⟨w.heap.size + 1 + 1, 0, none⟩ = some (.slice none 0 0) := kR.cell 0 rfl
         have r1 : wS.cell? ⟨w.heap.size + 1 + 1, 1, none⟩ = some (.slice none 0 0) := kR.cell 1 rfl
         have g0 := kR.free 0
         have g1 := kR.free 1
         have hlt := kR.lt
         have HRK := Lib.hid kR
         clear kA kB kR
         have HVS := Lib.hid hslw
         clear hslS hbS hslw)
      | (refine step_append_full (by rfl) (.tmp 35) (.tmp 37) 22 (by rfl) 37 (.agg #[.int .i64 0, .int .i64 0]) 2 16 Tryd.underlying22 info_edge rfl hx02 (some ⟨g, o, none⟩) n (edFlat E) HFL.out (by rfl) ?_ _ 1 1 [.int .i64 x, .int .i64 y] (by rfl) rfl ?_ hx0 hx1 hx2 ?_
         focus (refine EsAt.holds (cap := cap) ?_; (repeat (first | with_reducible exact HE3.out | with_reducible refine EsAt.allocd ?_ _ | with_reducible refine EsAt.drewd ?_ | with_reducible refine EsAt.below ?_ HBA.out | with_reducible refine EsAt.below ?_ HBS.out)); done)
         focus (refine Cs.add ?_; (repeat (first | with_reducible exact Cs.new _ _ _ | (with_reducible refine Cs.new' ?_; (first | rfl | (simp; done))) | with_reducible refine Cs.allocd ?_ _ | with_reducible refine Cs.drewd ?_ | with_reducible refine Cs.next ?_ HBA.out | with_reducible refine Cs.next ?_ HBS.out)); done)
         intro capA wA howA hbA hltA
         have howw := app_row (Z := w.heap.size + 3) howA (by first | omega | (simp; omega))
         have HBA := Lib.hid hbA
         have kA : Blk wA w.heap.size 25 #[vv, .slice (some ⟨g, o, none⟩) n cap] := by (repeat (first | with_reducible exact HA.out | with_reducible refine Blk.alloc ?_ _ | with_reducible refine Blk.drew ?_ | with_reducible refine Blk.nxt ?_ HBA.out | with_reducible refine Blk.nxt ?_ HBS.out))
         have kB : Blk wA (w.heap.size + 1) 37 #[.int .i64 x, .int .i64 y] := by (repeat (first | with_reducible exact HB.out | with_reducible refine Blk.alloc ?_ _ | with_reducible refine Blk.drew ?_ | with_reducible refine Blk.nxt ?_ HBA.out | with_reducible refine Blk.nxt ?_ HBS.out))
         have kR : Blk wA (w.heap.size + 1 + 1) 25 #[.slice none 0 0, .slice none 0 0] := by (repeat (first | with_reducible exact HR.out | with_reducible refine Blk.alloc ?_ _ | with_reducible refine Blk.drew ?_ | with_reducible refine Blk.nxt ?_ HBA.out | with_reducible refine Blk.nxt ?_ HBS.out))
         have q0 : wA.cell? ⟨w.heap.size, 0, none⟩ = some vv := kA.cell 0 rfl
         have q1 : wA.cell? ⟨w.heap.size, 1, none⟩ = some (.slice (some ⟨g, o, none⟩) n cap) := kA.cell 1 rfl
         have q2 : wA.cell? ⟨w.heap.size + 1, 0, none⟩ = some (.int .i64 x) := kB.cell 0 rfl
         have q3 : wA.cell? ⟨w.heap.size + 1, 1, none⟩ = some (.int .i64 y) := kB.cell 1 rfl
         have r0 : wA.cell? ⟨w.heap.size + 1 + 1, 0, none⟩ = some (.slice none 0 0) := kR.cell 0 rfl
         have r1 : wA.cell? ⟨w.heap.size + 1 + 1, 1, none⟩ = some (.slice none 0 0) := kR.cell 1 rfl
         have g0 := kR.free 0
         have g1 := kR.free 1
         have hlt := kR.lt
         have HRK := Lib.hid kR
         clear kA kB kR
         have HEA := Lib.hid howw
         clear howA hbA hltA howw)
      | fail)
  all_goals
    go_wp2_with fail
    have h0 := fun u v => ((HRK.out.set 0 u).set 1 v).cell 0 (v := u) (by simp)
    have h1 := fun u v => ((HRK.out.set 0 u).set 1 v).cell 1 (v := v) (by simp)
    refine bodyPost_ret (v := .tuple #[.agg #[_, _], .int .i64 0]) (by simp [results, Tryd.results13, go_sem, h0, h1]; exact ⟨rfl, rfl, rfl, rfl⟩) rfl ⟨_, _, _, _, rfl, ?_, ?_, ?_⟩
    · refine row_weaken (B := w.heap.size + 3) ?_ (by omega)
      (repeat (first | with_reducible exact HVS.out | with_reducible refine World.ownsRow.alloc ?_ _ | with_reducible refine row_drew ?_ | with_reducible refine row_set ?_ ?_ _ | with_reducible refine row_below ?_ HBA.out | with_reducible refine row_below ?_ HBS.out | omega | (simp only []; omega) | (simp; done) | (simp; omega)))
    · refine AppRow.weak (Z := w.heap.size + 3) ?_ (by omega)
      (repeat (first | (with_reducible refine AppRow.cast HEA.out ?_ ?_ <;> (first | rfl | omega | (simp only []; omega) | (simp; done) | (simp; omega))) | with_reducible refine AppRow.allocd ?_ _ | with_reducible refine AppRow.drewd ?_ | with_reducible refine AppRow.set ?_ ?_ _ | with_reducible refine AppRow.next ?_ HBA.out | with_reducible refine AppRow.next ?_ HBS.out | omega | (simp only []; omega) | (simp; done) | (simp; omega)))
    · (repeat (first | with_reducible exact HB3.out | with_reducible refine Below.drew ?_ | with_reducible refine Below.alloc ?_ ?_ _ | with_reducible refine Below.setCell ?_ ?_ _ | with_reducible refine Below.next ?_ HBA.out ?_ | with_reducible refine Below.next ?_ HBS.out ?_ | omega | (simp only []; omega) | (simp; done) | (simp; omega)))
end Go.Proofs.YtdmkijdokmnicaaDoor
