/- laws.fhSorted: what comes out of a heap is sorted. -/
import Derived.Test.YtmhackiiiehlmaaFhLib
namespace Go.Proofs.Ytmhackiiiehlmaa
set_option linter.unusedVariables false
open Go.RowKit Go.Sort Go.Lib

/-- append of one struct, and where the row lies -/
theorem wpList_appendSA {P : Program} {w : World} {ops : Array Oper} {rest : List Oper} {o : Oper} {a : Act} {Q : Exit → Act → World → Prop} (hgd : o.guard = none) (s x : Operand) (t : TypeId)
    (ho : o.op = .call { callee := .builtin .append, args := #[s, x], argTypes := #[t, t] })
    (base S : Nat) (e : TypeId) (z : Value) (bytes : Nat) (ht : P.underlying t = some (.slice e)) (hi : (P.info? e).map (fun i => (i.zero, i.size, i.bytes)) = some (some z, S, bytes)) (hz : z.cells.size = S) (hS : 0 < S)
    (v : Value) (n : Nat) (xs : List Value) (hs : a.eval s = v) (hown : w.ownsRow base e S v n xs)
    (us : Array Value) (hx : a.eval x = .slice (some ⟨w.heap.size, 0, none⟩) 1 1) (hus : us.size = S) (h1 : ∀ u ∈ us.toList, u.oneCell' = true)
    (h63 : n + 1 ≤ maxLen) (hbytes : (n + 1) * bytes ≤ 140737488355328) (hbase : base ≤ w.heap.size)
    (h : ∀ g cap w', w'.ownsRow base e S (.slice (some ⟨g, 0, none⟩) (n + 1) cap) (n + 1) (xs ++ us.toList) → Fr (obl v) [g] w w' → wpList P ops Q rest (a.put o.dst (.slice (some ⟨g, 0, none⟩) (n + 1) cap)) w') :
    wpList P ops Q (o :: rest) a (w.alloc (.cells us e)) := by
  obtain ⟨i, h2, h3, h4, h5⟩ := info_parts hi
  have hw : (w.alloc (.cells us e)).heap.size = w.heap.size + 1 := by simp
  have hcells : ∀ j u, us.toList[j]? = some u → (w.alloc (.cells us e)).cell? ((⟨w.heap.size, 0, none⟩ : Addr).add j) = some u := by
    intro j u hu
    rw [addr_add, Nat.zero_add]
    refine (Blk.new w e us).cell j ?_
    rw [← Array.getElem?_toList]
    exact hu
  refine wpList_append_own_at _ hgd s x t ho base e i z S bytes ht h2 h3 h4 h5 hz hS v n xs hs (hown.alloc _) ⟨w.heap.size, 0, none⟩ 1 1 us.toList hx (by simpa using hus) hcells h1 h63 hbytes (by omega) fun v' w' hown' hgr hnil hat => ?_
  have hg2 : w.grownBy w' v.ownBlock := ⟨hgr.os, hgr.tape, hgr.output, by have := hgr.size; omega, fun k hk hne => (hgr.block k (by omega) hne).trans (Below.heap_alloc w _ k hk)⟩
  have hv' : ∃ g cap, v' = .slice (some ⟨g, 0, none⟩) (n + 1) cap := by
    rcases hown'.2 with ⟨e, _⟩ | ⟨g, cap, cur, e, _⟩
    · have := (hnil.1 e).2; omega
    · exact ⟨g, cap, e⟩
  obtain ⟨g, cap, rfl⟩ := hv'
  refine h g cap w' hown' (Fr.of_grown (v' := .slice (some ⟨g, 0, none⟩) (n + 1) cap) hg2 (fun k hk => ?_))
  have hk : g = k := by injection hk
  subst hk
  rcases hat with h | h
  · exact .inl h.symm
  · simp [Value.ownBlock] at h
    exact .inr (by omega)
theorem fr_nil {F F' : List Nat} {w w' : World} (h : Fr F F' w w') : Fr F [] w w' := ⟨h.os, h.tape, h.output, h.size, h.block, fun k hk => (by cases hk)⟩
theorem sd_row {w : World} {B g N ca : Nat} {U : List Sd} (h : w.ownsRow B 37 5 (.slice (some ⟨g, 0, none⟩) N ca) N (U.map sdL).flatten) (hU : U.length = N) {i : Nat} {u : Sd} (hu : U[i]? = some u) :
    w.cell? ⟨g, i * 5, none⟩ = some (.bool u.is) ∧ w.cell? ⟨g, i * 5 + 1, none⟩ = some (.int .i64 u.en) ∧ w.cell? ⟨g, i * 5 + 2, none⟩ = some (.int .i64 u.q) ∧ w.cell? ⟨g, i * 5 + 3, none⟩ = some (.int .i64 u.sz) ∧ w.cell? ⟨g, i * 5 + 4, none⟩ = some (.bool u.em) := by
  have hi : i < N := by rw [← hU]; exact (List.getElem?_eq_some_iff.1 hu).1
  have hrow : (U.map sdL)[i]? = some (sdL u) := by rw [List.getElem?_map, hu]; rfl
  have hall : ∀ r ∈ U.map sdL, r.length = 5 := fun r hr => by
    obtain ⟨x, -, rfl⟩ := List.mem_map.1 hr
    rfl
  have hc : ∀ j v, (sdL u)[j]? = some v → j < 5 → w.cell? ⟨g, i * 5 + j, none⟩ = some v := fun j v hv hj => by
    rw [h.cellAt (i * 5 + j) (by omega)]
    exact flatten_at 5 _ hall i j (sdL u) v hrow hv
  exact ⟨hc 0 _ rfl (by omega), hc 1 _ rfl (by omega), hc 2 _ rfl (by omega), hc 3 _ rfl (by omega), hc 4 _ rfl (by omega)⟩
theorem deqs_snoc (S : List (Int × Int × Int)) (i : Nat) : S ++ List.replicate (i + 1) deqS = (S ++ List.replicate i deqS) ++ [(3, 0, 0)] := by
  rw [List.replicate_succ', ← List.append_assoc]; rfl
theorem taken_next {UU : List Sd} {i n : Nat} {u : Sd} (hu : UU[i]? = some u) : ((UU.take (i + 1)).drop n).map Sd.q = ((UU.take i).drop n).map Sd.q ++ (if n ≤ i then [u.q] else []) := by
  have hi := (List.getElem?_eq_some_iff.1 hu).1
  rw [List.take_add_one, hu]
  split
  · rw [List.drop_append_of_le_length (by rw [List.length_take]; omega)]
    simp
  · rw [List.drop_eq_nil_of_le (by rw [List.length_append, List.length_take]; simp; omega), List.drop_eq_nil_of_le (by rw [List.length_take]; omega)]
    rfl
theorem info_int : (Try.prog.info? 3).map (fun i => (i.zero, i.size, i.bytes)) = some (some (.int .i64 0), 1, 8) := by kernel_rfl
set_option maxRecDepth 100000 in
set_option maxHeartbeats 4000000 in
theorem fhsorted_any (h4 : Step4C) (S : List (Int × Int × Int)) (l : List Int) (B : Nat) (pa : Option Addr) (n ca : Nat) (v : Value) (w : World) (hS : w.ownsRow B 32 4 (.slice pa n ca) n (rowsS S)) (hSl : S.length = n) (hg : GoodS S l)
    (hv : ∀ w', Fr (obl (.slice pa n ca)) [] w w' → Sl w' v (ints l)) (hl : l.length ≤ 60) (hn : n ≤ 120) (hB : B ≤ w.heap.size) :
    Calls Try.prog 6 #[.slice pa n ca, v] w fun e w' => e = .returned (.bool true) ∧ Below B w w' := by
  obtain ⟨la, ln, lc, rfl, hln, -, -, -⟩ := hv w (fr_nil (Fr.refl _ _))
  rw [List.length_map] at hln
  have HS := Lib.hid hS
  have HG := Lib.hid hg
  have HV := Lib.hid hv
  have HLN := Lib.hid hln
  have HSL := Lib.hid hSl
  have H4 := Lib.hid h4
  rw [hln] at hl
  clear hS hg hv hln hSl h4
  go_enter Try.func6, Try.ntmps6
  go_wp2_with fail
  go_loopg [0, 15] ln (fun kk s0 s15 wr => ∃ (i : Nat) (pa' : Option Addr) (ca' : Nat), i + kk = ln ∧ s15 = .int .i64 (i : Int) ∧ s0 = .slice pa' (n + i) ca' ∧ wr.ownsRow B 32 4 (.slice pa' (n + i) ca') (n + i) (rowsS (S ++ List.replicate i deqS)) ∧ Fr (obl (.slice pa n ca)) (obl (.slice pa' (n + i) ca')) w wr)
  case atStart => exact ⟨0, pa, ca, by omega, rfl, rfl, by simpa using HS.out, Fr.refl _ _⟩
  case round =>
    obtain ⟨i, pa', ca', hik, rfl, rfl, hown, hfr⟩ := hrel
    have HO := Lib.hid hown
    have HF := Lib.hid hfr
    have hsz : B ≤ wr.heap.size := Nat.le_trans hB hfr.size
    obtain ⟨N1, hN1⟩ : ∃ N1, n + i = N1 := ⟨_, rfl⟩
    rw [hN1] at hown hfr HO HF ⊢
    have HN1 := Lib.hid hN1
    by_cases hi : i < ln
    · have HON := Lib.hid (step_ones 3 0 0)
      have hN2 : N1 ≤ 200 := by omega
      clear hown hfr hN1
      go_wp2_with (at_builtin; refine wpList_appendSA rfl _ _ 25 rfl B 4 32 (.agg #[.int .i64 0, .int .i64 0, .int .i64 0, .slice none 0 0]) 48 Try.underlying25 info_step rfl (by decide) (.slice pa' N1 ca') N1 (rowsS (S ++ List.replicate i deqS)) rfl HO.out #[.int .i64 3, .int .i64 0, .int .i64 0, .slice none 0 0] rfl rfl HON.out (by unfold maxLen; omega) (by omega) hsz ?_; intro g7 cap7 w7 hown7 hf7; have HO7 := Lib.hid hown7; have HF7 := Lib.hid hf7; clear hown7 hf7)
      go_roundg (gk - 1)
      case measure => omega
      case rel => exact ⟨i + 1, some ⟨g7, 0, none⟩, cap7, by omega, rfl, by rw [← HN1.out]; rfl, by rw [deqs_snoc, rowsS_snoc, ← Nat.add_assoc, HN1.out]; exact HO7.out, HF.out.trans HF7.out⟩
    · have hin : i = ln := by omega
      have HIN := Lib.hid hin
      have HON := Lib.hid (step_ones 2 0 0)
      have hN2 : N1 ≤ 200 := by omega
      clear hown hfr hN1
      go_wp2_with (at_builtin; refine wpList_appendSA rfl _ _ 25 rfl B 4 32 (.agg #[.int .i64 0, .int .i64 0, .int .i64 0, .slice none 0 0]) 48 Try.underlying25 info_step rfl (by decide) (.slice pa' N1 ca') N1 (rowsS (S ++ List.replicate i deqS)) rfl HO.out #[.int .i64 2, .int .i64 0, .int .i64 0, .slice none 0 0] rfl rfl HON.out (by unfold maxLen; omega) (by omega) hsz ?_; intro g7 cap7 w7 hown7 hf7; have HO7 := Lib.hid hown7; have HF7 := Lib.hid hf7; clear hown7 hf7)
      have hout : S ++ List.replicate i deqS ++ [(2, 0, 0)] = outS S l := by
        unfold outS
        rw [List.append_assoc, HLN.out, HIN.out]
      have hrows : w7.ownsRow B 32 4 (.slice (some ⟨g7, 0, none⟩) (N1 + 1) cap7) (N1 + 1) (rowsS (outS S l)) := by
        rw [← hout, rowsS_snoc]; exact HO7.out
      have hrw : Rw 4 w7 (.slice (some ⟨g7, 0, none⟩) (N1 + 1) cap7) ((outS S l).map stepL) := Rw.of_owns (fun r hr => by
        obtain ⟨x, -, rfl⟩ := List.mem_map.1 hr
        rfl) (by decide) hrows
      have holen : (outS S l).length = N1 + 1 := by
        rw [← hout, List.length_append, List.length_append, List.length_replicate, HSL.out, HN1.out]; rfl
      have HRN := Lib.hid (fhrun_any H4.out (outS S l) _ w7 hrw (good_can HG.out) (by rw [holen]; omega))
      unfold RunPost at HRN
      rw [holen] at HRN
      have HF8 := Lib.hid (HF.out.trans HF7.out)
      have HOL := Lib.hid holen
      clear hout hrows hrw holen HO HF
      go_wp2_with fail
      refine HRN.out.mono ?_
      rintro e w8 ⟨sp, sc, U, L, rfl, hsd, hrun, hb8⟩
      obtain ⟨U1, U2, u9, rfl, hU1, hU2, hUi, hu9, hu9e, hUq⟩ := good_out HG.out hrun
      obtain ⟨sg, rfl⟩ : ∃ sg, sp = some ⟨sg, 0, none⟩ := by
        rcases hsd.2 with ⟨e, h0⟩ | ⟨g, cap, cur, e, _⟩
        · cases h0
        · injection e with e1 e2 e3
          exact ⟨g, e1⟩
      have hM : (n : Int) + (ln : Int) = (N1 : Int) := by have := HN1.out; rw [HIN.out] at this; omega
      have hUl : (U1 ++ (U2 ++ [u9])).length = N1 + 1 := by
        have := HN1.out
        have := HIN.out
        rw [List.length_append, List.length_append, hU1, hU2, HSL.out, HLN.out]; simp; omega
      have hu9r : (U1 ++ (U2 ++ [u9]))[N1]? = some u9 := by
        have := HN1.out
        have := HIN.out
        rw [← List.append_assoc, List.getElem?_append_right (by rw [List.length_append, hU1, hU2, HSL.out, HLN.out]; omega), List.length_append, hU1, hU2, HSL.out, HLN.out]
        have e : N1 - (n + ln) = 0 := by omega
        rw [e]; rfl
      obtain ⟨d0, -, -, -, d4⟩ := sd_row hsd hUl hu9r
      rw [hu9] at d0
      rw [hu9e] at d4
      have HSD := Lib.hid hsd
      have HU1 := Lib.hid hU1
      have HU2 := Lib.hid hU2
      have HUI := Lib.hid hUi
      have HUQ := Lib.hid hUq
      have HB8 := Lib.hid hb8
      have HUL := Lib.hid hUl
      clear hsd hrun hb8 hU1 hU2 hUi hu9 hu9e hUq hUl hu9r
      have hNi : (N1 : Int) < ((N1 + 1 : Nat) : Int) := by omega
      have hN0 : (0 : Int) ≤ (N1 : Int) := by omega
      have hcap : N1 + 1 ≤ sc := by
        rcases HSD.out.2 with ⟨e, h0⟩ | ⟨g, cap, cur, e, -, -, h, -⟩
        · cases h0
        · injection e with e1 e2 e3
          omega
      have hsc1 : N1 ≤ sc := by omega
      have hsc2 : (N1 : Int) ≤ (sc : Int) := by omega
      have hsc3 : ¬ sc = 0 := by omega
      obtain ⟨UU, hUU⟩ : ∃ UU, U1 ++ U2 = UU := ⟨_, rfl⟩
      have HUU := Lib.hid hUU
      have hUUl : UU.length = N1 := by
        have q1 := HN1.out
        have q2 := HIN.out
        rw [← hUU, List.length_append, HU1.out, HU2.out, HSL.out, HLN.out]; omega
      have HUUL := Lib.hid hUUl
      have HUIS : Hid (∀ u ∈ UU, u.is = true) := Lib.hid (by rw [← hUU]; exact HUI.out)
      have HROW : Hid (∀ (j : Nat) (u : Sd), UU[j]? = some u → (U1 ++ (U2 ++ [u9]))[j]? = some u) := Lib.hid (fun j u hj => by
        rw [← List.append_assoc, hUU, List.getElem?_append_left (List.getElem?_eq_some_iff.1 hj).1]; exact hj)
      clear hUU hUUl
      go_wp2_with fail
      go_loopg [7, 63] N1 (fun kk s7 s63 wx => ∃ (i2 : Nat) (po : Option Addr) (jo co : Nat), i2 + kk = N1 ∧ s63 = .int .i64 (i2 : Int) ∧ s7 = .slice po jo co ∧ wx.ownsRow w8.heap.size 3 1 (.slice po jo co) jo (ints (((UU.take i2).drop n).map Sd.q)) ∧ Below w8.heap.size w8 wx)
      case atStart => exact ⟨0, none, 0, 0, by omega, rfl, rfl, by simpa using World.ownsRow_nil _ _ _ _, Below.refl _ _⟩
      case round =>
        obtain ⟨i2, po, jo, co, hik2, rfl, rfl, hown, hbel⟩ := hrel
        obtain ⟨wx, rfl⟩ : ∃ y, y = wr := ⟨_, rfl⟩
        have HO := Lib.hid hown
        have HBX := Lib.hid hbel
        have hjl : jo ≤ 200 := by
          have h := hown.1
          rw [List.length_map, List.length_map, List.length_drop, List.length_take, HUUL.out] at h
          omega
        have hszx : w8.heap.size ≤ wx.heap.size := hbel.size
        by_cases hi2 : i2 < N1
        · obtain ⟨u, hu⟩ : ∃ u, UU[i2]? = some u := ⟨_, List.getElem?_eq_getElem (by rw [HUUL.out]; exact hi2)⟩
          have hsdx := (Fr.of_below [] hbel).own HSD.out (fun _ _ h => by cases h)
          obtain ⟨e0, e1, e2, e3, e4⟩ := sd_row hsdx HUL.out (HROW.out i2 u hu)
          rw [HUIS.out u (List.mem_of_getElem? hu)] at e0
          have hnx := taken_next (n := n) hu
          obtain ⟨z1, hz1⟩ : ∃ z, u.en = z := ⟨_, rfl⟩
          obtain ⟨z2, hz2⟩ : ∃ z, u.q = z := ⟨_, rfl⟩
          obtain ⟨z3, hz3⟩ : ∃ z, u.sz = z := ⟨_, rfl⟩
          obtain ⟨z4, hz4⟩ : ∃ z, u.em = z := ⟨_, rfl⟩
          rw [hz1] at e1
          rw [hz2] at e2 hnx
          rw [hz3] at e3
          rw [hz4] at e4
          by_cases hni : n ≤ i2
          · rw [if_pos hni] at hnx
            have HNX := Lib.hid hnx
            clear hu hsdx hnx hz1 hz2 hz3 hz4 hown hbel d0 d4
            have hszb : w8.heap.size ≤ (wx.alloc (.cells #[.bool true, .int .i64 z1, .int .i64 z2, .int .i64 z3, .bool z4] 37)).heap.size := by rw [World.size_alloc]; omega
            have hob := (HO.out.alloc (.cells #[.bool true, .int .i64 z1, .int .i64 z2, .int .i64 z3, .bool z4] 37))
            have HOB := Lib.hid hob
            clear hob
            go_wp2_with (at_builtin; refine wpList_append1 rfl _ _ 22 rfl w8.heap.size 3 (.int .i64 0) 8 Try.underlying22 info_int rfl (.slice po jo co) jo (ints (((UU.take i2).drop n).map Sd.q)) rfl HOB.out (.int .i64 z2) (by rw [World.size_alloc]; rfl) rfl (by unfold maxLen; omega) (by omega) hszb ?_; intro g6 c6 w6 hown6 hg6 hb6; have HO6 := Lib.hid hown6; have HB6 := Lib.hid hb6; clear hown6 hg6 hb6)
            go_roundg (gk - 1)
            case measure => omega
            case rel => exact ⟨i2 + 1, some ⟨g6, 0, none⟩, jo + 1, c6, by omega, rfl, rfl, by rw [HNX.out]; unfold ints; rw [List.map_append]; exact HO6.out, (HBX.out.alloc hszx _).trans HB6.out⟩
          · rw [if_neg hni, List.append_nil] at hnx
            have HNX := Lib.hid hnx
            have hni' : i2 < n := by omega
            have hdn : decide (n ≤ i2) = false := by rw [decide_eq_false_iff_not]; omega
            clear hu hsdx hnx hz1 hz2 hz3 hz4 hown hbel d0 d4 hni
            go_wp2_with fail
            go_roundg (gk - 1)
            case measure => omega
            case rel => exact ⟨i2 + 1, po, jo, co, by omega, rfl, rfl, by rw [HNX.out]; exact HO.out.alloc _, HBX.out.alloc hszx _⟩
        · have hin2 : i2 = N1 := by omega
          have hq : ((UU.take i2).drop n).map Sd.q = l.mergeSort fun a b => decide (a ≤ b) := by
            rw [List.take_of_length_le (by rw [HUUL.out, hin2]; exact Nat.le_refl _), ← HUU.out, List.drop_left' (by rw [HU1.out, HSL.out]), HUQ.out]
          rw [hq] at HO
          have hfrx : Fr (obl (.slice pa n ca)) [] w wx := fr_nil ((HF8.out.trans (Fr.of_below _ HB8.out)).trans (Fr.of_below _ hbel))
          have HCL := Lib.hid (clone_any (.slice la ln lc) l wx (HV.out wx hfrx) (by rw [HLN.out]; omega))
          have hB3 : Below B w wx := (fr_nil ((HF8.out.trans (Fr.of_below _ HB8.out)).trans (Fr.of_below _ hbel))).below (fun k hk => (own_lt HS.out k hk).2) hB
          have HB3 := Lib.hid hB3
          have hBx : B ≤ wx.heap.size := Nat.le_trans hB hB3.size
          clear hown hbel hq hfrx hB3 d0 d4 hin2
          go_wp2_with fail
          refine HCL.out.mono ?_
          rintro e w3 ⟨v', rfl, hown3, hb3⟩
          obtain ⟨ca3, cn3, cc3, rfl⟩ : ∃ a n c, v' = .slice a n c := by
            rcases hown3.2 with ⟨e, _⟩ | ⟨g, cap, cur, e, _⟩
            · exact ⟨_, _, _, e⟩
            · exact ⟨_, _, _, e⟩
          have hcn3 : cn3 = ln := by
            rw [HLN.out] at hown3
            rcases hown3.2 with ⟨e, h0⟩ | ⟨g, cap, cur, e, _⟩
            · injection e with e1 e2 e3; omega
            · injection e with e1 e2 e3
          subst hcn3
          rw [HLN.out] at hown3
          have HST := Lib.hid (sort_any wx.heap.size ca3 cn3 cc3 l w3 hown3 hb3.size (by omega))
          have HB4 := Lib.hid hb3
          clear hown3 hb3
          go_wp2_with fail
          refine HST.out.mono ?_
          rintro e w4 ⟨rfl, hown4, hb4⟩
          have hbx4 : Below wx.heap.size wx w4 := HB4.out.trans hb4
          have hs1 := Sl.of_owns ((Fr.of_below [] hbx4).own HO.out (fun _ _ h => by cases h))
          have hs2 := Sl.of_owns hown4
          have HEQ := Lib.hid (equal_any _ _ _ w4 hs1 hs2 (by rw [List.length_mergeSort, HLN.out]; omega))
          have HB5 := Lib.hid hbx4
          clear hown4 hb4 hbx4 hs1 hs2
          go_wp2_with fail
          refine HEQ.out.mono ?_
          rintro e w5 ⟨rfl, hb5⟩
          have HB6 := Lib.hid hb5
          clear hb5
          go_wp2_with fail
          go_ret
          exact ⟨rfl, (HB3.out.trans (HB5.out.mono hBx)).trans (HB6.out.mono (Nat.le_trans hBx HB5.out.size))⟩
end Go.Proofs.Ytmhackiiiehlmaa
