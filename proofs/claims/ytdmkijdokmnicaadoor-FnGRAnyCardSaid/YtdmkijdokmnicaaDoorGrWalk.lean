/- Walks of package graph: NewSimpleGraph, addVertex, AddEdge, Degree, V, E. -/
import Derived.Test.YtdmkijdokmnicaaDoorGrErr
namespace Go.Proofs.YtdmkijdokmnicaaDoor
set_option linter.unusedVariables false
open Go.RowKit

/-- the outer map of a graph: each vertex with the map in its block -/
def gl (f : Int → Nat) (V : List Int) : List (Int × Value) := V.map fun x => (x, .map (some (f x)))
theorem gl_keys (f : Int → Nat) (V : List Int) : Vm.keys (gl f V) = V := by simp [Vm.keys, gl, Function.comp_def]
theorem gl_get (f : Int → Nat) (x : Int) (V : List Int) : Vm.get x (gl f V) = if x ∈ V then some (.map (some (f x))) else none := by
  induction V with
  | nil => rfl
  | cons b r ih =>
    simp only [gl, List.map_cons, Vm.get, List.mem_cons]
    by_cases h : b = x
    · subst h; simp
    · have h2 : ¬ x = b := fun e => h e.symm
      simp only [h, h2, if_false, false_or]
      exact ih
def upf (f : Int → Nat) (x : Int) (m : Nat) : Int → Nat := fun y => if y = x then m else f y
theorem gl_put (f : Int → Nat) (x : Int) (m : Nat) {V : List Int} (hx : x ∉ V) : Vm.put x (.map (some m)) (gl f V) = gl (upf f x m) (V ++ [x]) := by
  rw [(Vm.absent (by rw [gl_keys]; exact hx)).2.1]
  unfold gl
  rw [List.map_append]
  congr 1
  · apply List.map_congr_left
    intro y hy
    have : y ≠ x := fun e => hx (e ▸ hy)
    simp [upf, this]
  · simp [upf]

/-- a graph in block s: its vertices, its edges; all its blocks lie from Z on -/
structure GrAt (w : World) (Z s b : Nat) (f : Int → Nat) (V : List Int) (E : List Gr.Ed) : Prop where
  blk : Blk w s 62 #[.map (some b), .int .i64 (V.length : Int), .int .i64 (E.length : Int)]
  out : VMap w ik b (gl f V)
  inn : ∀ x ∈ V, VMap w ik (f x) (setl (Gr.adj E x))
  sb : s ≠ b
  apart : ∀ x ∈ V, f x ≠ b ∧ f x ≠ s
  inj : ∀ x ∈ V, ∀ y ∈ V, f x = f y → x = y
  nd : V.Nodup
  zs : Z ≤ s
  zb : Z ≤ b
  zf : ∀ x ∈ V, Z ≤ f x

theorem GrAt.below {w w' : World} {Z s b : Nat} {f : Int → Nat} {V : List Int} {E : List Gr.Ed} (h : GrAt w Z s b f V E) (hb : Below w.heap.size w w') : GrAt w' Z s b f V E :=
  ⟨h.blk.below hb h.blk.lt, h.out.below hb h.out.lt, fun x hx => (h.inn x hx).below hb (h.inn x hx).lt, h.sb, h.apart, h.inj, h.nd, h.zs, h.zb, h.zf⟩

theorem zero_map (w : World) : (zeroValue 59).run Tryd.prog w = .ok (.map none) w := by kernel_rfl
theorem make_inner (w : World) : (Instr.makeMap 59 none).run Tryd.prog w = .ok (.map (some w.heap.size)) (w.alloc (.map #[] 0)) := by kernel_rfl
theorem make_outer (w : World) : (Instr.makeMap 60 none).run Tryd.prog w = .ok (.map (some w.heap.size)) (w.alloc (.map #[] 0)) := by kernel_rfl
theorem cmp_int : (Tryd.prog.info? 3).map (·.comparable) = some true := by kernel_rfl
theorem eq_if (w : World) (a b : Int) : (binOp .eql 20 (.iface 3 (.int .i64 a)) (.iface 3 (.int .i64 b))).run Tryd.prog w = .ok (.bool (a == b)) w := by
  obtain ⟨i, hi, hcmp⟩ := Option.map_eq_some_iff.1 cmp_int
  simp only [binOp]
  have h := equal_iface (P := Tryd.prog) (ms := #[]) Tryd.underlying20 Tryd.underlying3 hi hcmp a b w
  simp [h]

/-- all blocks of cells but block s stay -/
def KeepC (s : Nat) (w w' : World) : Prop := w.heap.size ≤ w'.heap.size ∧ ∀ k c t fr, k ≠ s → w.heap[k]? = some (.cells c t fr) → w'.heap[k]? = some (.cells c t fr)
theorem KeepC.refl (s : Nat) (w : World) : KeepC s w w := ⟨Nat.le_refl _, fun _ _ _ _ _ h => h⟩
theorem KeepC.trans {s : Nat} {w w1 w2 : World} (h : KeepC s w w1) (h2 : KeepC s w1 w2) : KeepC s w w2 := ⟨Nat.le_trans h.1 h2.1, fun k c t fr hk hc => h2.2 k c t fr hk (h.2 k c t fr hk hc)⟩
theorem KeepC.alloc {s : Nat} {w w1 : World} (h : KeepC s w w1) (o : Obj) : KeepC s w (w1.alloc o) :=
  h.trans ⟨by simp, fun k c t fr _ hc => (Below.heap_alloc w1 o k (Array.getElem?_eq_some_iff.1 hc).1).trans hc⟩
theorem KeepC.turned {s b : Nat} {w w1 w2 : World} (h : KeepC s w w1) (ht : w1.mapTurned w2 b) : KeepC s w w2 :=
  h.trans ⟨ht.grown.size, fun k c t fr _ hc => (ht.grown.block k (Array.getElem?_eq_some_iff.1 hc).1 (fun e => by
    obtain ⟨es, clock, es2, cl2, hb, _⟩ := ht
    injection e with e
    subst e
    rw [hb] at hc
    cases hc)).trans hc⟩
theorem KeepC.setCell {s o : Nat} {w w1 : World} (h : KeepC s w w1) (u : Value) : KeepC s w (w1.setCell ⟨s, o, none⟩ u) :=
  h.trans ⟨by simp, fun k c t fr hk hc => (Below.heap_setCell w1 _ u k hk).trans hc⟩
theorem KeepC.drew {s : Nat} {w w1 : World} (h : KeepC s w w1) : KeepC s w w1.drew := h
theorem KeepC.row {s : Nat} {w w' : World} (h : KeepC s w w') {B : Nat} {e : TypeId} {size : Nat} {v : Value} {n : Nat} {xs : List Value} (ho : w.ownsRow B e size v n xs) (hs : v.ownBlock ≠ some s) : w'.ownsRow B e size v n xs := by
  refine ⟨ho.1, ?_⟩
  rcases ho.2 with h1 | ⟨g, cap, cur, rfl, h1, h2, h3⟩
  · exact .inl h1
  · exact .inr ⟨g, cap, cur, rfl, h1, h.2 g _ _ _ (fun e => hs (by rw [← e]; rfl)) h2, h3⟩
theorem row_blk {w : World} {B : Nat} {e : TypeId} {size : Nat} {v : Value} {n : Nat} {xs : List Value} (h : w.ownsRow B e size v n xs) {s : Nat} {t : TypeId} {cs : Array Value} (hs : Blk w s t cs) (he : e ≠ t) : v.ownBlock ≠ some s := by
  rcases h.2 with ⟨rfl, _⟩ | ⟨g, cap, cur, rfl, _, hh, _⟩
  · simp [Value.ownBlock]
  · intro e1
    simp [Value.ownBlock] at e1
    subst e1
    unfold Blk at hs
    rw [hs] at hh
    injection hh with hh
    injection hh with _ hh
    exact he hh.symm

def NewG (Z : Nat) (w : World) (e : Ending) (w' : World) : Prop := ∃ s b, e = .returned (.pointer (some ⟨s, 0, none⟩)) ∧ GrAt w' Z s b (fun _ => 0) [] [] ∧ Below Z w w'
set_option maxHeartbeats 400000 in
theorem gnew_any (w : World) (Z : Nat) (hZ : Z ≤ w.heap.size) : Calls Tryd.prog 24 #[] w (NewG Z w) := by
  have hmm := make_outer
  go_enter Tryd.func24, Tryd.ntmps24
  go_wp2_with fail
  go_ret
  refine ⟨_, _, rfl, ⟨?_, (VMap.made w ik).alloc _, by simp, by simp, by simp, by simp, by simp, by omega, hZ, by simp⟩, ((Below.refl _ _).alloc hZ _).alloc (by simp; omega) _⟩
  have h := Blk.new (w.alloc (.map #[] 0)) 62 #[.map (some w.heap.size), .int .i64 0, .int .i64 0]
  simpa using h

def AddV (Z s b : Nat) (V : List Int) (E : List Gr.Ed) (w : World) (e : Ending) (w' : World) : Prop := ∃ f', e = .returned (.tuple #[]) ∧ GrAt w' Z s b f' V E ∧ Below Z w w' ∧ KeepC s w w'
set_option maxHeartbeats 1000000 in
theorem gaddv_old (w : World) (Z s b : Nat) (f : Int → Nat) (V : List Int) (E : List Gr.Ed) (x : Int) (h : GrAt w Z s b f V E) (hZ : Z ≤ w.heap.size) (hx : x ∈ V) :
    Calls Tryd.prog 26 #[.pointer (some ⟨s, 0, none⟩), .iface 3 (.int .i64 x)] w (AddV Z s b V E w) := by
  have c0 : w.cell? ⟨s, 0, none⟩ = some (.map (some b)) := h.blk.cell 0 rfl
  have hq : Vm.get x (gl f V) = some (.map (some (f x))) := by rw [gl_get, if_pos hx]
  have HQ := Lib.hid hq
  have HG := Lib.hid h
  clear h hq hx
  go_enter Tryd.func26, Tryd.ntmps26
  go_wp2_with (at_lookup; refine wpList_vlook_ok _ rfl _ _ 60 rfl 20 59 KIF Tryd.underlying60 (zero_map _) b _ rfl HG.out.out x rfl _ HQ.out ?_)
  go_end0
  exact ⟨f, rfl, HG.out, Below.refl _ _, KeepC.refl _ _⟩
set_option maxHeartbeats 1000000 in
theorem gaddv_new (w : World) (Z s b : Nat) (f : Int → Nat) (V : List Int) (E : List Gr.Ed) (x : Int) (h : GrAt w Z s b f V E) (hZ : Z ≤ w.heap.size) (hx : x ∉ V) (hE : Gr.adj E x = []) (h9 : V.length ≤ 100000) :
    Calls Tryd.prog 26 #[.pointer (some ⟨s, 0, none⟩), .iface 3 (.int .i64 x)] w (AddV Z s b (V ++ [x]) E w) := by
  have hmm := make_inner
  have c0 : w.cell? ⟨s, 0, none⟩ = some (.map (some b)) := h.blk.cell 0 rfl
  have hq : Vm.get x (gl f V) = none := by rw [gl_get, if_neg hx]
  have hp := gl_put f x w.heap.size hx
  have HQ := Lib.hid hq
  have HP := Lib.hid hp
  have HX := Lib.hid hx
  have HE := Lib.hid hE
  have HG := Lib.hid h
  have hln : (V.length : Int) ≤ 100000 := by omega
  clear h hq hx hE hp
  go_enter Tryd.func26, Tryd.ntmps26
  have q1 : w.cell? ⟨s, 1, none⟩ = some (.int .i64 (V.length : Int)) := HG.out.blk.cell 1 rfl
  have hs := HG.out.blk.lt
  go_wp2_with (first
    | (at_lookup; refine wpList_vlook_ok _ rfl _ _ 60 rfl 20 59 KIF Tryd.underlying60 (zero_map _) b _ rfl HG.out.out x rfl _ HQ.out ?_)
    | (at_mapUpdate; refine wpList_vput _ rfl _ _ _ 60 rfl 20 59 KIF Tryd.underlying60 b _ rfl (HG.out.out.alloc _) x rfl (.map (some w.heap.size)) rfl ?_; intro w1 hvm ht1; have hb1 := (HG.out.blk.alloc (.map #[] 0)).grown ht1.grown (fun e => HG.out.sb (by injection e with e; exact e.symm)); have d1 : w1.cell? ⟨s, 1, none⟩ = some (.int .i64 (V.length : Int)) := hb1.cell 1 rfl; have d2 := hb1.free 1; have HB1 := Lib.hid hb1; have HVM := Lib.hid hvm; clear hb1 hvm))
  go_end0
  have hlt : ∀ y ∈ V, f y < w.heap.size := fun y hy => (HG.out.inn y hy).lt
  have hy2 : ∀ y ∈ V, upf f x w.heap.size y = f y := fun y hy => by
    have : y ≠ x := fun e => HX.out (e ▸ hy)
    simp [upf, this]
  have hx2 : upf f x w.heap.size x = w.heap.size := by simp [upf]
  have hbl : Below Z w w1 := by
    have h1 : Below Z w (w.alloc (.map #[] 0)) := (Below.refl _ _).alloc hZ _
    exact h1.grown ht1.grown (by have := h1.size; omega) (fun k hk => by injection hk with hk; rw [← hk]; exact HG.out.zb)
  have hvin : ∀ y ∈ V ++ [x], VMap w1 ik (upf f x w.heap.size y) (setl (Gr.adj E y)) := by
    intro y hy
    rcases List.mem_append.1 hy with hy | hy
    · rw [hy2 y hy]
      exact ((HG.out.inn y hy).alloc _).turned ht1 (HG.out.apart y hy).1
    · obtain rfl : y = x := by simpa using hy
      rw [hx2, HE.out]
      have := (VMap.made w ik).turned ht1 (by have := HG.out.out.lt; omega)
      exact this
  refine ⟨upf f x w.heap.size, rfl, ⟨?_, ?_, ?_, HG.out.sb, ?_, ?_, ?_, HG.out.zs, HG.out.zb, ?_⟩, hbl.setCell HG.out.zs _, (((KeepC.refl s w).alloc _).turned ht1).setCell _⟩
  · have := HB1.out.set 1 (.int .i64 (V.length + 1 : Int))
    simpa using this
  · rw [← HP.out]
    exact HVM.out.setCell (Ne.symm HG.out.sb) _
  · intro y hy
    refine (hvin y hy).setCell ?_ _
    rcases List.mem_append.1 hy with hy | hy
    · rw [hy2 y hy]; exact (HG.out.apart y hy).2
    · obtain rfl : y = x := by simpa using hy
      rw [hx2]; simp only []; omega
  · intro y hy
    rcases List.mem_append.1 hy with hy | hy
    · rw [hy2 y hy]; exact HG.out.apart y hy
    · obtain rfl : y = x := by simpa using hy
      rw [hx2]; have := HG.out.out.lt; omega
  · intro y hy z hz e
    rcases List.mem_append.1 hy with hy' | hy' <;> rcases List.mem_append.1 hz with hz' | hz'
    · rw [hy2 y hy', hy2 z hz'] at e; exact HG.out.inj y hy' z hz' e
    · have hzx : z = x := by simpa using hz'
      rw [hy2 y hy', hzx, hx2] at e; have := hlt y hy'; omega
    · have hyx : y = x := by simpa using hy'
      rw [hy2 z hz', hyx, hx2] at e; have := hlt z hz'; omega
    · have hzx : z = x := by simpa using hz'
      have hyx : y = x := by simpa using hy'
      rw [hyx, hzx]
  · rw [List.nodup_append]
    refine ⟨HG.out.nd, by simp, fun a ha c hc => ?_⟩
    simp only [List.mem_singleton] at hc
    subst hc
    intro e; subst e; exact HX.out ha
  · intro y hy
    rcases List.mem_append.1 hy with hy | hy
    · rw [hy2 y hy]; exact HG.out.zf y hy
    · obtain rfl : y = x := by simpa using hy
      rw [hx2]; exact hZ
theorem gaddv_any (w : World) (Z s b : Nat) (f : Int → Nat) (V : List Int) (E : List Gr.Ed) (x : Int) (h : GrAt w Z s b f V E) (hZ : Z ≤ w.heap.size) (hE : x ∉ V → Gr.adj E x = []) (h9 : V.length ≤ 100000) :
    Calls Tryd.prog 26 #[.pointer (some ⟨s, 0, none⟩), .iface 3 (.int .i64 x)] w (AddV Z s b (Gr.add1 V x) E w) := by
  unfold Gr.add1
  split
  · rename_i hx; exact gaddv_old w Z s b f V E x h hZ hx
  · rename_i hx; exact gaddv_new w Z s b f V E x h hZ hx (hE hx) h9
end Go.Proofs.YtdmkijdokmnicaaDoor
