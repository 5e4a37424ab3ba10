/- The law FnPQOnce of package laws returns true for every input, and each argument reads afterwards as it read before. The package-level errors that its row lists lie as the program's text lays them: the tied card. -/
import Derived.Test.YtepjailijekepaaDoorPqOnceLaw
import Derived.Test.YtepjailijekepaaDoorRows
import Derived.WalkKit
import Derived.ProofKit
import Derived.OpenShut
import Derived.ChangeOld
import Derived.Below
import Derived.LaidMore
import Derived.LaidLaws
import Derived.Stop.LaidErr
import Derived.Stop.Joined
import Derived.RowKitTokens
import Derived.SevenTiedAt
import Derived.Test.YtepjailijekepaaDoorTie
import Derived.Test.YtepjailijekepaaDoorCards
namespace Go.Proofs.YtepjailijekepaaDoor.fnPQOnce
open Go.ChangeShapes Go.WideShapes Go.ChangeAt Go.RowKit
set_option linter.unusedVariables false

theorem own : ownKnob Tryd.prog.godebug = none := by kernel_rfl
theorem laidOut : laidOutB Tryd.prog = true := by kernel_rfl

def laid : List (String × DataW Unit) := [("given.example/pub-lumberyard/pub/godatastructures/queue.ErrDisposed", Rows.laid_given_example_pub_lumberyard_pub_godatastructures_queue_ErrDisposed), ("given.example/pub-lumberyard/pub/godatastructures/queue.ErrTimeout", Rows.laid_given_example_pub_lumberyard_pub_godatastructures_queue_ErrTimeout), ("given.example/pub-lumberyard/pub/godatastructures/queue.ErrEmptyQueue", Rows.laid_given_example_pub_lumberyard_pub_godatastructures_queue_ErrEmptyQueue)]
theorem g0 : Tryd.prog.globalNamed "given.example/pub-lumberyard/pub/godatastructures/queue.ErrDisposed" = some 0 := by kernel_rfl
theorem gt0 : (Tryd.prog.globals[0]?).map (·.type) = some 58 := by kernel_rfl
theorem g1 : Tryd.prog.globalNamed "given.example/pub-lumberyard/pub/godatastructures/queue.ErrTimeout" = some 1 := by kernel_rfl
theorem gt1 : (Tryd.prog.globals[1]?).map (·.type) = some 58 := by kernel_rfl
theorem g2 : Tryd.prog.globalNamed "given.example/pub-lumberyard/pub/godatastructures/queue.ErrEmptyQueue" = some 2 := by kernel_rfl
theorem gt2 : (Tryd.prog.globals[2]?).map (·.type) = some 58 := by kernel_rfl
theorem cellsE : Tryd.prog.cellsOf 94 = 1 := by kernel_rfl
theorem cellsS : Tryd.prog.cellsOf 9 = 1 := by kernel_rfl
theorem star : "*" ++ "errors.errorString" = "*errors.errorString" := by decide
theorem rowE (u : TypeId) (h : Tryd.prog.typeName? 3 u = some "*errors.errorString") : u = 76 :=
  typeName_ptr_named (nm := "errors.errorString") (by rw [star]; kernel_rfl) (by kernel_rfl) (by decide) u (by rw [star]; exact h)
theorem door_met (os : Os) (args : Array Value) : laidMetH Tryd.prog laid ((World.doorLaid Tryd.prog 66 os).forCall (fun _ _ => 0) ⟨#[], args, []⟩).memory :=
  laidMetH_of_parts3 (fuel := 8) (laidMet_of_run' 8 (by kernel_rfl) (by kernel_rfl)) (by kernel_rfl) (by kernel_rfl)
theorem of_laid {W : World} (h : laidMetH Tryd.prog laid W) : ∃ s0 s1 s2 : Addr, (W.var? Tryd.prog "given.example/pub-lumberyard/pub/godatastructures/queue.ErrDisposed" = some #[.iface 76 (.pointer (some s0))] ∧ W.var? Tryd.prog "given.example/pub-lumberyard/pub/godatastructures/queue.ErrTimeout" = some #[.iface 76 (.pointer (some s1))] ∧ W.var? Tryd.prog "given.example/pub-lumberyard/pub/godatastructures/queue.ErrEmptyQueue" = some #[.iface 76 (.pointer (some s2))]) ∧ Sn W s0 s1 s2 := by
  rw [MakeChecks.laidMetH_plain _ _ _ (by kernel_rfl)] at h
  obtain ⟨ps, ⟨G0, T0, cs0, f0, p0, q0, hg0, ht0, hv0, hd0, ⟨G1, T1, cs1, f1, p1, q1, hg1, ht1, hv1, hd1, ⟨G2, T2, cs2, f2, p2, q2, hg2, ht2, hv2, hd2, hq, e2⟩, e1⟩, e0⟩, hnd, hrows⟩ := h
  obtain rfl := Option.some.inj (g0.symm.trans hg0)
  obtain rfl := Option.some.inj (gt0.symm.trans ht0)
  obtain rfl := Option.some.inj (g1.symm.trans hg1)
  obtain rfl := Option.some.inj (gt1.symm.trans ht1)
  obtain rfl := Option.some.inj (g2.symm.trans hg2)
  obtain rfl := Option.some.inj (gt2.symm.trans ht2)
  have hq' : q2 = [] := hq
  subst hq'
  subst e2
  subst e1
  subst e0
  obtain ⟨l0⟩ := cs0
  obtain ⟨l1⟩ := cs1
  obtain ⟨l2⟩ := cs2
  have ok0 : ∀ u v, l0 = [.iface u v] → Value.okWide Tryd.prog W .any 0 u v := fun u v e => by
    subst e
    exact (hrows 0 0 (by simp [MemPlace.row])).2 u v (by simpa using World.var?_cell hg0 hv0 0)
  have ok1 : ∀ u v, l1 = [.iface u v] → Value.okWide Tryd.prog W .any 0 u v := fun u v e => by
    subst e
    exact (hrows 1 0 (by simp [MemPlace.row])).2 u v (by simpa using World.var?_cell hg1 hv1 0)
  have ok2 : ∀ u v, l2 = [.iface u v] → Value.okWide Tryd.prog W .any 0 u v := fun u v e => by
    subst e
    exact (hrows 2 0 (by simp [MemPlace.row])).2 u v (by simpa using World.var?_cell hg2 hv2 0)
  obtain ⟨s0, b0, rfl, hc0, hs0, hz0, rfl⟩ := errorString_of_trod Tryd.underlying58 rowE Tryd.underlying76 Tryd.underlying94 rfl rfl Tryd.underlying9 cellsE cellsS hd0 ok0
  obtain ⟨s1, b1, rfl, hc1, hs1, hz1, rfl⟩ := errorString_of_trod Tryd.underlying58 rowE Tryd.underlying76 Tryd.underlying94 rfl rfl Tryd.underlying9 cellsE cellsS hd1 ok1
  obtain ⟨s2, b2, rfl, hc2, hs2, hz2, rfl⟩ := errorString_of_trod Tryd.underlying58 rowE Tryd.underlying76 Tryd.underlying94 rfl rfl Tryd.underlying9 cellsE cellsS hd2 ok2
  obtain ⟨c0, t0, hb0⟩ := (hrows s0.block s0.off (by simp [MemPlace.row])).1
  obtain ⟨c1, t1, hb1⟩ := (hrows s1.block s1.off (by simp [MemPlace.row])).1
  obtain ⟨c2, t2, hb2⟩ := (hrows s2.block s2.off (by simp [MemPlace.row])).1
  exact ⟨s0, s1, s2, ⟨hv0, hv1, hv2⟩, { c0 := by simpa using World.var?_cell g0 hv0 0, c1 := by simpa using World.var?_cell g1 hv1 0, c2 := by simpa using World.var?_cell g2 hv2 0, n01 := by rintro rfl; simp [MemPlace.row] at hnd, n02 := by rintro rfl; simp [MemPlace.row] at hnd, n12 := by rintro rfl; simp [MemPlace.row] at hnd, b0 := ⟨_, _, hb0⟩, b1 := ⟨_, _, hb1⟩, b2 := ⟨_, _, hb2⟩ }⟩
theorem vars_read {H : Type} (enc : TypeId × Value → H) {W : World} {x0 x1 x2 : Value} (h0 : W.var? Tryd.prog "given.example/pub-lumberyard/pub/godatastructures/queue.ErrDisposed" = some #[x0]) (h1 : W.var? Tryd.prog "given.example/pub-lumberyard/pub/godatastructures/queue.ErrTimeout" = some #[x1]) (h2 : W.var? Tryd.prog "given.example/pub-lumberyard/pub/godatastructures/queue.ErrEmptyQueue" = some #[x2]) (i0 : IsIface x0) (i1 : IsIface x1) (i2 : IsIface x2) (sp : Nat → Bool) :
    DataW.TrodVars enc Tryd.prog W sp ["given.example/pub-lumberyard/pub/godatastructures/queue.ErrDisposed", "given.example/pub-lumberyard/pub/godatastructures/queue.ErrTimeout", "given.example/pub-lumberyard/pub/godatastructures/queue.ErrEmptyQueue"] [tok enc x0, tok enc x1, tok enc x2] [.cell 0 0, .cell 1 0, .cell 2 0] :=
  ⟨0, 58, #[x0], 1, [], [.cell 1 0, .cell 2 0], g0, gt0, h0, trod_held Tryd.underlying58 i0 0, ⟨1, 58, #[x1], 1, [], [.cell 2 0], g1, gt1, h1, trod_held Tryd.underlying58 i1 0, ⟨2, 58, #[x2], 1, [], [], g2, gt2, h2, trod_held Tryd.underlying58 i2 0, rfl, rfl⟩, rfl⟩, rfl⟩
theorem var_below {W W' : World} {nm : String} {cs : Array Value} (h : W.var? Tryd.prog nm = some cs) (hb : Below W.heap.size W W') : W'.var? Tryd.prog nm = some cs := by
  unfold World.var? at h ⊢
  cases hg : Tryd.prog.globalNamed nm with
  | none => simp [hg] at h
  | some g =>
    simp only [hg, Option.bind_some] at h ⊢
    have hlt : g < W.heap.size := by
      rcases Nat.lt_or_ge g W.heap.size with h' | h'
      · exact h'
      · simp [Array.getElem?_eq_none h'] at h
    rw [hb.block g hlt]
    exact h

theorem walk (v0 : Value) (w : World) (w0 : AnyIts w v0) (s0 s1 s2 : Addr) (hS : Sn w s0 s1 s2) :
    Calls Tryd.prog 3 #[v0] w fun e w' => e = .returned (.bool true) ∧ Below w.heap.size w w' := by
  exact law_pqonce v0 w w0 s0 s1 s2 hS

set_option maxRecDepth 100000 in
theorem lifted (os : Os) (started : os.Started) (H : Type) (enc : TypeId × Value → H) :
    ReturnsInHanded {} Tryd.checked os 3 .any (fun w args => (Rows.fnPQOnceSpec.pre enc Tryd.prog Tryd.f3 [] false w args ∧ laidMetH Tryd.prog laid w) ∧ sizedMet enc Tryd.prog Tryd.f3 (OpenSpec.ofChange Rows.fnPQOnceSpec) false w args)
      (Rows.fnPQOnceSpec.post enc Tryd.prog Tryd.f3 false true false false) := by
  refine returnsInHanded_of_change_and (C := Tryd.checked) (X := fun w _ => laidMetH Tryd.prog laid w) (fun _ _ _ hh h => h.of_heap hh) own started (by kernel_rfl) Tryd.func3
    (ChangeSpec.witness_shaped (enc := enc) (C := Tryd.checked) (os := os) (X := fun w _ => laidMetH Tryd.prog laid w) false (World.doorLaid Tryd.prog 66 os) #[.slice none 0 0] 8 rfl (World.shaped_of_RefB (by kernel_rfl) (by kernel_rfl)) (by kernel_rfl) (by kernel_rfl) (by kernel_rfl) (door_met os _)) ?_
  intro W base args ds gs before hval0 hW _ _ hL _
  obtain ⟨s0, s1, s2, ⟨hv0, hv1, hv2⟩, hSn⟩ := of_laid hL
  have hval : ∀ (j : Nat) t v, Tryd.f3.params[j]? = some t → args[j]? = some v → Value.okWide Tryd.prog W .any base t v := hval0
  have hW' := hW
  obtain ⟨p, q, hA0, hV, rfl, hfz, hnd⟩ := hW
  have hA : DataW.TrodAll enc Tryd.prog W 0 (fun _ => true) true Tryd.f3.params.toList args.toList ds p := hA0
  rw [Tryd.params3] at hA hval
  obtain ⟨v0, vs0, d0, ds0, p0, q0, hargs, rfl, rfl, h0, r0⟩ := trodAll_cons hA
  obtain ⟨rfl, rfl, rfl⟩ := trodAll_nil r0
  obtain rfl : args = #[v0] := by cases args; simp_all
  have hV' : DataW.TrodVars enc Tryd.prog W (fun _ => true) ["given.example/pub-lumberyard/pub/godatastructures/queue.ErrDisposed", "given.example/pub-lumberyard/pub/godatastructures/queue.ErrTimeout", "given.example/pub-lumberyard/pub/godatastructures/queue.ErrEmptyQueue"] gs q := hV
  obtain ⟨rfl, rfl⟩ := hV'.unique (vars_read enc hv0 hv1 hv2 trivial trivial trivial _)
  have k0 := h0
  have lt0 : ∀ x ∈ p0, x.block < W.heap.size := by obtain ⟨m, hm⟩ := k0; exact DataW.trod_lt m _ _ _ hm
  have w0 := open_its (hval 0 22 v0 rfl rfl) h0
  clear hA0 hval0
  refine (walk v0 W w0 s0 s1 s2 hSn).mono fun e W' ⟨he, bel⟩ => ?_
  subst he
  exact ⟨_, rfl, _, _, _, [], _, [.cell 0 0, .cell 1 0, .cell 2 0], hW', trodAll_mk1 (shut_bool Tryd.underlying4 _), (trodAll_cons_mk (Below.trod laidOut (by kernel_rfl) (of_decide_eq_true (by kernel_rfl)) k0 bel lt0) trodAll_mk0), vars_read enc (var_below hv0 bel) (var_below hv1 bel) (var_below hv2 bel) trivial trivial trivial _, bel.frame _, fun h => by cases h⟩

theorem over : Rows.fnPQOnceRow.holds Tryd.pinned (OpenSpec.ofChange Rows.fnPQOnceSpec) :=
  OpenClaim.holds_of_wide 3 Tryd.f3 rfl rfl rfl rfl rfl rfl rfl ⟨rfl, rfl, rfl, rfl, rfl⟩ rfl rfl rfl rfl rfl (by kernel_rfl) Tryd.func3 (by kernel_rfl)
    (of_decide_eq_true (by kernel_rfl)) (by unfold Func.isWrapper; first | (rw [if_pos (by decide +kernel)]; kernel_rfl) | (rw [if_neg (by decide +kernel)]; exact ⟨rfl, rfl⟩))
    (fun os started H enc _ => lifted os started H enc)

theorem proved : Rows.FnPQOnceCardSaid :=
  Claim7.holds_tied_plain_at .later [] [.sentinel, .sentinel, .sentinel] true (true, "bb2fb9777e246804833dbf808d8cb512432a3d6c3c0d100104a8559fccef07a1") true
    over (fun _ h => by cases h) (by kernel_rfl) (fun _ h => by cases h) fnPQOnce_row_tie rfl ⟨rfl, rfl⟩ (by kernel_rfl) rfl
    (fun f fn hf hfn => by
      obtain rfl : f = 3 := Option.some.inj ((show Tryd.prog.funcNamed "given.example/pub-lumberyard/laws.FnPQOnce" = some 3 by kernel_rfl).symm.trans hf) |>.symm
      obtain rfl : fn = Tryd.f3 := (Option.some.inj (Tryd.func3.symm.trans hfn)).symm
      exact ⟨by kernel_rfl, fun j t ht => by
        rw [Tryd.params3] at ht
        have hm : t ∈ [22] := by simpa using Array.mem_of_getElem? ht
        have hall : ([22].all fun u => !Tryd.prog.wantsStandIn u) = true := by kernel_rfl
        exact (show Tryd.prog.wantsStandIn t = false by simpa using List.all_eq_true.1 hall t hm)⟩)
    (by kernel_rfl)
#print axioms proved
end Go.Proofs.YtepjailijekepaaDoor.fnPQOnce
