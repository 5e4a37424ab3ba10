/- impl: (*fhHeap).said and gone. -/
import Derived.Test.YtmhackiiiehlmaaFhDec
namespace Go.Proofs.Ytmhackiiiehlmaa
set_option linter.unusedVariables false
open Go.RowKit Fh

/-- what stands at a number that was looked for among the first i entries -/
structure Fnd (Es : List (Option Nat)) (b : Nat) (i : Nat) (p : Int) (fe q : Int) : Prop where
  no : (∀ j, j < i → Es[j]? ≠ some (some b)) → fe = -1 ∧ q = 0
  yes : ∀ j, j < i → Es[j]? = some (some b) → fe = (j : Int) ∧ q = p
theorem fnd_start (Es : List (Option Nat)) (b : Nat) (p : Int) : Fnd Es b 0 p (-1) 0 := ⟨fun _ => ⟨rfl, rfl⟩, fun j hj => by omega⟩
theorem fnd_not {Es : List (Option Nat)} {b i : Nat} {p fe q : Int} (h : Fnd Es b i p fe q) (hn : Es[i]? ≠ some (some b)) : Fnd Es b (i + 1) p fe q :=
  ⟨fun hh => h.no (fun j hj => hh j (by omega)), fun j hj he => by
    by_cases hji : j = i
    · exact absurd (hji ▸ he) hn
    · exact h.yes j (by omega) he⟩
theorem fnd_yes {Es : List (Option Nat)} {b i : Nat} {p : Int} (hu : ∀ j k : Nat, Es[j]? = some (some b) → Es[k]? = some (some b) → j = k) (hn : Es[i]? = some (some b)) : Fnd Es b (i + 1) p (i : Int) p :=
  ⟨fun hh => absurd hn (hh i (by omega)), fun j hj he => by rw [hu j i he hn]; exact ⟨rfl, rfl⟩⟩
/-- the end of said, whatever it found -/
def saidV (is : Bool) (fe q : Int) : Value := .agg #[.bool is, .int .i64 fe, .int .i64 q, .int .i64 0, .bool false]
set_option maxRecDepth 100000 in
set_option maxHeartbeats 4000000 in
theorem said_any (hb : Nat) (hv : Value) (b : Nat) (s : St) (A : List Nat) (B n c : Nat) (tp : Option Addr) (Es : List (Option Nat)) (w : World) (hk : Blk w hb 50 #[hv, .slice tp n c]) (ho : w.ownsRow B 41 1 (.slice tp n c) n (Es.map pt)) (hat : HpAt w s A)
    (hA : ∀ x, some x ∈ Es → x ∈ A) (hb0 : b ∈ A) (hp : Sm (s.pr b)) (hu : ∀ j k : Nat, Es[j]? = some (some b) → Es[k]? = some (some b) → j = k) (hn : n ≤ 1000) :
    Calls Try.prog 20 #[.pointer (some ⟨hb, 0, none⟩), .pointer (some ⟨b, 0, none⟩), .nilIface] w fun e w' => (∃ fe q, e = .returned (saidV true fe q) ∧ Fnd Es b n (s.pr b) fe q) ∧ Below w.heap.size w w' := by
  have hlen : Es.length = n := by have := ho.1; simpa using this
  have c1 := hk.cell 1 rfl
  have HK := Lib.hid hk
  have HO := Lib.hid ho
  have HAT := Lib.hid hat
  have HA := Lib.hid hA
  have HB0 := Lib.hid hb0
  have HU := Lib.hid hu
  have HP := Lib.hid hp
  have HLEN := Lib.hid hlen
  clear hk ho hat hA hb0 hp hu hlen
  have hlt := HK.out.lt
  go_enter Try.func20, Try.ntmps20
  go_wp2_with fail
  go_loopg [18] n (fun kk s18 wr => ∃ (i : Nat) (fe q : Int), i + kk = n ∧ s18 = .int .i64 (i : Int) ∧ Fnd Es b i (s.pr b) fe q ∧ Blk wr (w.heap.size + 1) 37 #[.bool true, .int .i64 fe, .int .i64 q, .int .i64 0, .bool false] ∧ Blk wr w.heap.size 37 #[.bool false, .int .i64 0, .int .i64 0, .int .i64 0, .bool false] ∧ Below w.heap.size w wr)
  case atStart =>
    refine ⟨0, -1, 0, by omega, rfl, fnd_start _ _ _, ?_, ?_, ((Below.refl _ _).alloc (Nat.le_refl _) _).alloc (by simp) _⟩
    · have h := Blk.new (w.alloc (.cells #[.bool false, .int .i64 0, .int .i64 0, .int .i64 0, .bool false] 37)) 37 #[.bool true, .int .i64 (-1), .int .i64 0, .int .i64 0, .bool false]
      rw [World.size_alloc] at h
      exact h
    · exact (Blk.new w _ _).alloc _
  case round =>
    obtain ⟨i, fe, q, hik, rfl, hf, hk1, hk0, hbel⟩ := hrel
    have HF := Lib.hid hf
    have HK1 := Lib.hid hk1
    have HK0 := Lib.hid hk0
    have HB := Lib.hid hbel
    have hlt1 := hk1.lt
    by_cases hi : i < n
    · obtain ⟨y, hy⟩ : ∃ y, Es[i]? = some y := ⟨_, List.getElem?_eq_getElem (by rw [HLEN.out]; exact hi)⟩
      have hown := (Fr.of_below [] hbel).own HO.out (fun _ _ h => by cases h)
      obtain ⟨_, _, _, e1, -, -, -, hr1⟩ := Sl.of_owns hown
      injection e1 with e1 e2 e3
      subst e1 e2 e3
      obtain ⟨bV, oV, rfl, hcV⟩ := hr1 (by omega)
      have hc := hcV i (pt y) (by rw [List.getElem?_map, hy]; rfl)
      have hat := HAT.out.below hbel
      have HY := Lib.hid hy
      cases y with
      | none =>
        have hc' : wr.cell? ⟨bV, oV + i, none⟩ = some (.pointer none) := hc
        have he := eql_nilr wr ⟨b, 0, none⟩
        have HF2 := Lib.hid (fnd_not hf (by rw [hy]; intro e; cases e))
        clear hy hown hr1 hcV hc hat hf hk1 hk0 hbel
        go_wp2_with fail
        go_roundg (gk - 1)
        case measure => omega
        case rel => exact ⟨i + 1, fe, q, by omega, rfl, HF2.out, HK1.out, HK0.out, HB.out⟩
      | some z =>
        have hc' : wr.cell? ⟨bV, oV + i, none⟩ = some (.pointer (some ⟨z, 0, none⟩)) := hc
        by_cases hz : z = b
        · subst hz
          have he := eql_same wr ⟨z, 0, none⟩
          have HF2 := Lib.hid (fnd_yes (p := s.pr z) HU.out hy)
          have x6 := hat.c6 HB0.out
          have d1 := hk1.cell 1 rfl
          have d2 := hk1.cell 2 rfl
          have g1 := hk1.free 1
          have g2 := hk1.free 2
          have HK2 := Lib.hid ((hk1.set 1 (.int .i64 (i : Int))).set 2 (.int .i64 (s.pr z)))
          have HK02 := Lib.hid ((hk0.other (a := ⟨w.heap.size + 1, 1, none⟩) (by simp) (.int .i64 (i : Int))).other (a := ⟨w.heap.size + 1, 2, none⟩) (by simp) (.int .i64 (s.pr z)))
          have HB2 := Lib.hid ((hbel.setCell (p := ⟨w.heap.size + 1, 1, none⟩) (by simp) (.int .i64 (i : Int))).setCell (p := ⟨w.heap.size + 1, 2, none⟩) (by simp) (.int .i64 (s.pr z)))
          have hfw : floatToIntVal .f64 (fl (s.pr z)) .i64 = some (s.pr z) := float_whole _ HP.out.abs
          obtain ⟨F, hF⟩ : ∃ F, fl (s.pr z) = F := ⟨_, rfl⟩
          rw [hF] at x6 hfw
          obtain ⟨v, hv⟩ : ∃ v, s.pr z = v := ⟨_, rfl⟩
          rw [hv] at HF2 HK2 HK02 HB2 hfw
          have HV := Lib.hid hv
          have hcv : ∀ w, (convert 57 3 (.float .f64 F)).run Try.prog w = .ok (.int .i64 v) w := fun w => run_convert_float_int w 57 3 .f64 .i64 F v (by kernel_rfl) Try.underlying3 hfw
          clear hy hown hr1 hcV hc hat hf hk1 hk0 hbel hF hv
          go_upto_region 6 with fail
          go_big_region
          go_wp2_with fail
          go_roundg (gk - 1)
          case measure => omega
          case rel => exact ⟨i + 1, (i : Int), v, by omega, rfl, by rw [HV.out]; exact HF2.out, HK2.out, HK02.out, HB2.out.drew⟩
        · have he := eql_other (hat b HB0.out) (hat z (HA.out z (List.mem_of_getElem? hy))) (fun e => hz e.symm)
          have HF2 := Lib.hid (fnd_not hf (by rw [hy]; intro e; injection e with e; injection e with e; exact hz e))
          clear hy hown hr1 hcV hc hat hf hk1 hk0 hbel hz
          go_wp2_with fail
          go_roundg (gk - 1)
          case measure => omega
          case rel => exact ⟨i + 1, fe, q, by omega, rfl, HF2.out, HK1.out, HK0.out, HB.out⟩
    · have hin : i = n := by omega
      subst hin
      have d0 := hk0.cell 0 rfl
      have d1 := hk0.cell 1 rfl
      have d2 := hk0.cell 2 rfl
      have d3 := hk0.cell 3 rfl
      have d4 := hk0.cell 4 rfl
      have g0 := hk0.free 0
      have g1 := hk0.free 1
      have g2 := hk0.free 2
      have g3 := hk0.free 3
      have g4 := hk0.free 4
      have e0 := hk1.cell 0 rfl
      have e1 := hk1.cell 1 rfl
      have e2 := hk1.cell 2 rfl
      have e3 := hk1.cell 3 rfl
      have e4 := hk1.cell 4 rfl
      clear hf hk1 hk0 hbel
      go_wp2_with fail
      refine bodyPost_ret (v := saidV true fe q) (by simp [results, Try.results20, go_sem, saidV, *]) rfl ?_
      exact ⟨⟨fe, q, rfl, HF.out⟩, ((((HB.out.setCell (p := ⟨w.heap.size, 0, none⟩) (Nat.le_refl _) _).setCell (p := ⟨w.heap.size, 1, none⟩) (Nat.le_refl _) _).setCell (p := ⟨w.heap.size, 2, none⟩) (Nat.le_refl _) _).setCell (p := ⟨w.heap.size, 3, none⟩) (Nat.le_refl _) _).setCell (p := ⟨w.heap.size, 4, none⟩) (Nat.le_refl _) _⟩
set_option maxRecDepth 100000 in
set_option maxHeartbeats 4000000 in
theorem saidnil_any (hb : Nat) (hv : Value) (T : TypeId) (ev : Value) (A : List Nat) (s : St) (B n c : Nat) (tp : Option Addr) (Es : List (Option Nat)) (w : World) (hk : Blk w hb 50 #[hv, .slice tp n c]) (ho : w.ownsRow B 41 1 (.slice tp n c) n (Es.map pt)) (hn : n ≤ 1000)
    (hne : ∀ w : World, (binOp .eql 60 (.iface T ev) .nilIface).run Try.prog w = .ok (.bool false) w) :
    Calls Try.prog 20 #[.pointer (some ⟨hb, 0, none⟩), .pointer none, .iface T ev] w fun e w' => e = .returned (saidV false (-1) 0) ∧ Below w.heap.size w w' := by
  have hlen : Es.length = n := by have := ho.1; simpa using this
  have c1 := hk.cell 1 rfl
  have HK := Lib.hid hk
  have HO := Lib.hid ho
  have HLEN := Lib.hid hlen
  clear hk ho hlen
  have hlt := HK.out.lt
  go_enter Try.func20, Try.ntmps20
  go_wp2_with fail
  go_loopg [18] n (fun kk s18 wr => ∃ (i : Nat), i + kk = n ∧ s18 = .int .i64 (i : Int) ∧ Blk wr (w.heap.size + 1) 37 #[.bool false, .int .i64 (-1), .int .i64 0, .int .i64 0, .bool false] ∧ Blk wr w.heap.size 37 #[.bool false, .int .i64 0, .int .i64 0, .int .i64 0, .bool false] ∧ Below w.heap.size w wr)
  case atStart =>
    refine ⟨0, by omega, rfl, ?_, ?_, ((Below.refl _ _).alloc (Nat.le_refl _) _).alloc (by simp) _⟩
    · have h := Blk.new (w.alloc (.cells #[.bool false, .int .i64 0, .int .i64 0, .int .i64 0, .bool false] 37)) 37 #[.bool false, .int .i64 (-1), .int .i64 0, .int .i64 0, .bool false]
      rw [World.size_alloc] at h
      exact h
    · exact (Blk.new w _ _).alloc _
  case round =>
    obtain ⟨i, hik, rfl, hk1, hk0, hbel⟩ := hrel
    have HK1 := Lib.hid hk1
    have HK0 := Lib.hid hk0
    have HB := Lib.hid hbel
    have hlt1 := hk1.lt
    by_cases hi : i < n
    · obtain ⟨y, hy⟩ : ∃ y, Es[i]? = some y := ⟨_, List.getElem?_eq_getElem (by rw [HLEN.out]; exact hi)⟩
      have hown := (Fr.of_below [] hbel).own HO.out (fun _ _ h => by cases h)
      obtain ⟨_, _, _, e1, -, -, -, hr1⟩ := Sl.of_owns hown
      injection e1 with e1 e2 e3
      subst e1 e2 e3
      obtain ⟨bV, oV, rfl, hcV⟩ := hr1 (by omega)
      have hc := hcV i (pt y) (by rw [List.getElem?_map, hy]; rfl)
      clear hy hown hr1 hcV hk1 hk0 hbel
      go_wp2_with fail
      go_roundg (gk - 1)
      case measure => omega
      case rel => exact ⟨i + 1, by omega, rfl, HK1.out, HK0.out, HB.out⟩
    · have hin : i = n := by omega
      subst hin
      have d0 := hk0.cell 0 rfl
      have d1 := hk0.cell 1 rfl
      have d2 := hk0.cell 2 rfl
      have d3 := hk0.cell 3 rfl
      have d4 := hk0.cell 4 rfl
      have g0 := hk0.free 0
      have g1 := hk0.free 1
      have g2 := hk0.free 2
      have g3 := hk0.free 3
      have g4 := hk0.free 4
      have e0 := hk1.cell 0 rfl
      have e1 := hk1.cell 1 rfl
      have e2 := hk1.cell 2 rfl
      have e3 := hk1.cell 3 rfl
      have e4 := hk1.cell 4 rfl
      clear hk1 hk0 hbel
      go_wp2_with fail
      refine bodyPost_ret (v := saidV false (-1) 0) (by simp [results, Try.results20, go_sem, saidV, *]) rfl ?_
      exact ⟨rfl, ((((HB.out.setCell (p := ⟨w.heap.size, 0, none⟩) (Nat.le_refl _) _).setCell (p := ⟨w.heap.size, 1, none⟩) (Nat.le_refl _) _).setCell (p := ⟨w.heap.size, 2, none⟩) (Nat.le_refl _) _).setCell (p := ⟨w.heap.size, 3, none⟩) (Nat.le_refl _) _).setCell (p := ⟨w.heap.size, 4, none⟩) (Nat.le_refl _) _⟩
set_option maxRecDepth 100000 in
theorem gone_any (hb : Nat) (hv : Value) (B n c g j : Nat) (Es : List (Option Nat)) (w : World) (hk : Blk w hb 50 #[hv, .slice (some ⟨g, 0, none⟩) n c]) (ho : w.ownsRow B 41 1 (.slice (some ⟨g, 0, none⟩) n c) n (Es.map pt)) (hn : n ≤ 1000) (hj : j < n) :
    Calls Try.prog 23 #[.pointer (some ⟨hb, 0, none⟩), .int .i64 (j : Int)] w fun e w' => e = .returned (.tuple #[]) ∧ w' = w.setCell ⟨g, j, none⟩ (pt none) := by
  have hlen : Es.length = n := by have := ho.1; simpa using this
  have c1 := hk.cell 1 rfl
  have hfr := ho.frozenAt j
  obtain ⟨v, hc⟩ : ∃ v, w.cell? ⟨g, j, none⟩ = some (pt v) := by
    have := ho.cellAt j (by omega)
    rw [this, List.getElem?_map, List.getElem?_eq_getElem (by rw [hlen]; exact hj)]
    exact ⟨_, rfl⟩
  obtain ⟨pv, hpv⟩ : ∃ pv, pt v = pv := ⟨_, rfl⟩
  rw [hpv] at hc
  clear hk ho hlen hpv
  have hji : (j : Int) < (n : Int) := by omega
  have hj0 : (0 : Int) ≤ (j : Int) := by omega
  go_enter Try.func23, Try.ntmps23
  go_wp2_with fail
  refine bodyPost_end (results_none rfl _ _ _) rfl ?_
  exact ⟨rfl, rfl⟩
end Go.Proofs.Ytmhackiiiehlmaa
