/- The walks of impl.AVRun and impl.AVKeep. -/
import Derived.Test.YtnfkjcopeljknaaAvAll
namespace Go.Proofs.Ytnfkjcopeljknaa
set_option linter.unusedVariables false
open Go.RowKit Avm

set_option maxRecDepth 100000 in
theorem avrun_any (S : List AStp) (U : List ASaid) (σ' : List (Option Lst)) (v : Value) (R : List (List Value)) (w : World) (hv : Rw 3 w v R) (hst : AStepsAt w R S) (hr : ARuns [some []] S U σ') (hn : S.length ≤ 400) (hD : (∃ s ∈ S, s.op = 2) → DelC) (hAS : AvSaidC) :
    Calls Try.prog 9 #[v] w fun e w' => ∃ (qo : Option Addr) (co : Nat) (rows : List (List Value)), e = .returned (.slice qo S.length co) ∧ w'.ownsRow w.heap.size 36 3 (.slice qo S.length co) S.length rows.flatten ∧ (∀ r ∈ rows, r.length = 3) ∧ rows.length = S.length ∧ ASaidAt w' w.heap.size rows U ∧ Below w.heap.size w w' := by
  have H := Lib.hid (avall_any S U σ' v R w hv hst hr hn hD hAS)
  obtain ⟨a0, n, cap, rfl, hla, hc, hm, hrr⟩ := hv
  clear hst hr hn hD hAS hla hc hm hrr
  obtain ⟨N, hN⟩ : ∃ N, S.length = N := ⟨_, rfl⟩
  rw [hN] at H ⊢
  clear hN
  go_enter Try.func9, Try.ntmps9
  go_wp2_with fail
  refine H.out.mono ?_
  rintro e w1 ⟨ps, qt, ct, qo, co, rows, rfl, h1, h2, h3, h4, h5, h6, h7⟩
  have H2 := Lib.hid h2
  have H3 := Lib.hid h3
  have H4 := Lib.hid h4
  have H5 := Lib.hid h5
  have H7 := Lib.hid h7
  clear h1 h2 h3 h4 h5 h6 h7 H
  go_wp2_with fail
  go_ret
  exact ⟨qo, co, rows, rfl, H2.out, H3.out, H4.out, H5.out, H7.out⟩

def i64s (ks : List Int) : List Value := ks.map (Value.int .i64)
def ask0 (ks : List Int) : Lst := ks.map fun k => (k, 0)
def kept (ks : List Int) (L : Lst) : ASaid := ⟨L.length, getOs L (ask0 ks)⟩
theorem ASaidAt.base {w : World} {G G' : Nat} {R : List (List Value)} {U : List ASaid} (h : ASaidAt w G R U) (hG : G' ≤ G) : ASaidAt w G' R U :=
  ⟨h.1, fun i row u hr hu => by
    obtain ⟨q1, c1, q2, c2, e, h1, h2⟩ := h.2 i row u hr hu
    exact ⟨q1, c1, q2, c2, e, own_base' h1 hG, own_base' h2 hG⟩⟩
def KLoop1 (ks : List Int) (n B : Nat) (w1 : World) (k : Nat) (s7 idx : Value) (wr : World) : Prop :=
  ∃ (j : Nat) (q : Option Addr) (c : Nat), s7 = .slice q j c ∧ idx = .int .i64 (j : Int) ∧ j + k = n ∧ wr.ownsRow B 25 2 (.slice q j c) j (aes (ask0 (ks.take j))).flatten ∧ Below B w1 wr
def KLoop2 (ks : List Int) (Ls : List Lst) (m B : Nat) (w2 : World) (k : Nat) (s10 idx : Value) (wr : World) : Prop :=
  ∃ (j : Nat) (q : Option Addr) (c : Nat) (rows : List (List Value)), s10 = .slice q j c ∧ idx = .int .i64 (j : Int) ∧ j + k = m ∧ wr.ownsRow B 36 3 (.slice q j c) j rows.flatten ∧ (∀ r ∈ rows, r.length = 3) ∧ rows.length = j ∧ ASaidAt wr B rows ((Ls.take j).map (kept ks)) ∧ Below B w2 wr

set_option maxRecDepth 100000 in
set_option maxHeartbeats 4000000 in
theorem avkeep_any (S : List AStp) (U : List ASaid) (Ls : List Lst) (v vk : Value) (ks : List Int) (R : List (List Value)) (w : World) (hv : Rw 3 w v R) (hst : AStepsAt w R S) (hr : ARuns [some []] S U (Ls.map some)) (hn : S.length ≤ 400) (hD : (∃ s ∈ S, s.op = 2) → DelC) (hAS : AvSaidC)
    (hk : Sl w vk (i64s ks)) (hkn : ks.length ≤ 100) (hLs : ∀ L ∈ Ls, L.length ≤ 100000) (hLl : Ls.length ≤ 1000) :
    Calls Try.prog 16 #[v, vk] w fun e w' => ∃ (qo : Option Addr) (co : Nat) (rows : List (List Value)), e = .returned (.slice qo Ls.length co) ∧ w'.ownsRow w.heap.size 36 3 (.slice qo Ls.length co) Ls.length rows.flatten ∧ (∀ r ∈ rows, r.length = 3) ∧ rows.length = Ls.length ∧ ASaidAt w' w.heap.size rows (Ls.map (kept ks)) ∧ Below w.heap.size w w' := by
  have H := Lib.hid (avall_any S U _ v R w hv hst hr hn hD hAS)
  have HAS := Lib.hid hAS
  have HLS := Lib.hid hLs
  obtain ⟨a0, n0, cap0, rfl, hla, hc, hm, hrr⟩ := hv
  clear hst hr hn hD hAS hla hc hm hrr hLs
  obtain ⟨N, hN⟩ : ∃ N, S.length = N := ⟨_, rfl⟩
  rw [hN] at H
  obtain ⟨ak, n, capk, rfl, hlk, hck, hmk, hrk⟩ := hk
  have HRK := Lib.hid hrk
  have hkl : ks.length = n := by rw [← hlk]; simp [i64s]
  have HKL := Lib.hid hkl
  rw [hkl] at hkn
  clear hN hlk hck hmk hrk hkl
  obtain ⟨M, hM⟩ : ∃ M, Ls.length = M := ⟨_, rfl⟩
  have HM := Lib.hid hM
  rw [hM] at hLl ⊢
  clear hM
  go_enter Try.func16, Try.ntmps16
  go_wp2_with fail
  refine H.out.mono ?_
  rintro e w1 ⟨ps, qt, ct, qo, co, rows, rfl, h1, h2, h3, h4, h5, h6, h7⟩
  have hpl : ps.length = M := by rw [h6.1, List.length_map, HM.out]
  have HPL := Lib.hid hpl
  rw [hpl] at h1 ⊢
  have H1 := Lib.hid h1
  have H6 := Lib.hid h6
  have H7 := Lib.hid h7
  have hs7 := h7.size
  obtain ⟨B, hB⟩ : ∃ B, w1.heap.size = B := ⟨_, rfl⟩
  have HBE := Lib.hid hB
  have hwB : w.heap.size ≤ B := by omega
  clear h1 h2 h3 h4 h5 h6 h7 H hpl
  go_wp2_with fail
  go_loopg [7, 9, 20] n (fun k s7 s9 idx wr => KLoop1 ks n B w1 k s7 idx wr)
  case atStart => exact ⟨0, none, 0, rfl, rfl, by omega, World.ownsRow_nil _ _ _ _, Below.refl _ _⟩
  case round =>
    obtain ⟨j, q, c, rfl, rfl, hjk, hown, hbel⟩ := hrel
    have HO := Lib.hid hown
    have HB := Lib.hid hbel
    have hsz : B ≤ wr.heap.size := by rw [← HBE.out]; exact hbel.size
    clear hown hbel
    by_cases hj : j < n
    · obtain ⟨b, off, rfl, hcell⟩ := HRK.out (by omega)
      have hjl : j < ks.length := by rw [HKL.out]; exact hj
      have hce := hcell j (.int .i64 (ks.getD j 0)) (by simp [i64s, List.getD_eq_getElem?_getD, hjl])
      rw [← H7.out.cell (World.block_lt_of_cell? w _ hce)] at hce
      rw [← HB.out.cell (by rw [← HBE.out]; exact World.block_lt_of_cell? w1 _ hce)] at hce
      have hsn : aes (ask0 (ks.take (j + 1))) = aes (ask0 (ks.take j)) ++ [[.int .i64 (ks.getD j 0), .int .i64 0]] := by
        rw [List.take_succ_eq_append_getElem hjl]
        unfold ask0 aes
        rw [List.map_append, List.map_append, List.getD_eq_getElem?_getD, List.getElem?_eq_getElem hjl]
        rfl
      obtain ⟨k0, hk0⟩ : ∃ x, ks.getD j 0 = x := ⟨_, rfl⟩
      rw [hk0] at hce hsn
      have HSN := Lib.hid hsn
      have i1 : (j : Int) < (n : Int) := by omega
      have i2 : (0 : Int) ≤ (j : Int) := by omega
      have hone : ∀ u ∈ (#[.int .i64 k0, .int .i64 0] : Array Value).toList, u.oneCell' = true := by
        intro u hu
        simp at hu
        rcases hu with rfl | rfl <;> rfl
      have HON := Lib.hid hone
      clear hcell hk0 hsn hone hjl hB
      cases gk with
      | zero => omega
      | succ k =>
        go_wp2_with (at_builtin; refine wpList_appendS rfl _ _ 22 rfl B 2 25 (.agg #[.int .i64 0, .int .i64 0]) 16 Try.underlying22 info_ave rfl (by decide) (.slice q j c) j (aes (ask0 (ks.take j))).flatten rfl HO.out #[.int .i64 k0, .int .i64 0] rfl rfl HON.out (by unfold maxLen; omega) (by omega) (by omega) ?_; intro g5 k5 w5 hown5 hg5 hb5; have HO5 := Lib.hid hown5; have HB5 := Lib.hid (HB.out.trans hb5); clear hown5 hg5 hb5)
        go_roundg k
        case measure => omega
        case rel => exact ⟨j + 1, _, k5, rfl, by go_num, by omega, by rw [HSN.out, List.flatten_append]; simpa using HO5.out, HB5.out⟩
    · obtain rfl : j = n := by omega
      rw [List.take_of_length_le (by rw [HKL.out]; exact Nat.le_refl _)] at HO
      have hask : Rw 2 wr (.slice q j c) (aes (ask0 ks)) := Rw.of_owns (aes_two _) (by decide) HO.out
      have hT2 := H6.out.below (by rw [HBE.out]; exact HB.out)
      have hO2 := (Fr.of_below [] (show Below w1.heap.size w1 wr from by rw [HBE.out]; exact HB.out)).own H1.out (fun _ _ h => by cases h)
      have hB2 : Below w.heap.size w wr := H7.out.trans (HB.out.mono hwB)
      have HASK := Lib.hid hask
      have HT2 := Lib.hid hT2
      have HO2 := Lib.hid hO2
      have HB2 := Lib.hid hB2
      obtain ⟨C, hC⟩ : ∃ C, wr.heap.size = C := ⟨_, rfl⟩
      have HCE := Lib.hid hC
      have hwC : w.heap.size ≤ C := by omega
      have halen : (ask0 ks).length ≤ 100 := by simp [ask0, HKL.out]; omega
      have HALEN := Lib.hid halen
      clear hask hT2 hO2 hB2 HO HB H1 H6 H7 HBE hB hs7 hwB hsz halen hC
      go_wp2_with fail
      go_loopg [10, 12, 32] M (fun k s10 s12 idx wq => KLoop2 ks Ls M C wr k s10 idx wq)
      case atStart => exact ⟨0, none, 0, [], rfl, rfl, by omega, World.ownsRow_nil _ _ _ _, by simp, rfl, ⟨by simp, fun i row u h => by simp at h⟩, Below.refl _ _⟩
      case round =>
        obtain ⟨i, q2, c2, rows2, rfl, rfl, hik, hown2, hrl2, hrn2, hsa2, hbel2⟩ := hrel
        have HOW2 := Lib.hid hown2
        have HRL2 := Lib.hid hrl2
        have HRN2 := Lib.hid hrn2
        have HSA2 := Lib.hid hsa2
        have HBL2 := Lib.hid hbel2
        have hsz2 : C ≤ wr.heap.size := by rw [← HCE.out]; exact hbel2.size
        clear hown2 hrl2 hrn2 hsa2 hbel2
        by_cases hi : i < M
        · have hpi : i < ps.length := by rw [HPL.out]; exact hi
          have hLi : i < Ls.length := by rw [HM.out]; exact hi
          obtain ⟨pt, hpt⟩ : ∃ pt, ps[i]? = some pt := ⟨_, List.getElem?_eq_getElem hpi⟩
          obtain ⟨L, hL⟩ : ∃ L, Ls[i]? = some L := ⟨_, List.getElem?_eq_getElem hLi⟩
          have hLmem : L ∈ Ls := List.mem_of_getElem? hL
          obtain ⟨t, ht, htL, htG⟩ := HT2.out.2 i pt L hpt (by rw [List.getElem?_map, hL]; rfl)
          have hcell4 := Sl.of_owns HO2.out
          obtain ⟨_, _, _, e4, hl4, hc4, hm4, hr4⟩ := hcell4
          injection e4 with e4 e5 e6
          subst e4 e5 e6
          obtain ⟨b4, o4, rfl, hcl4⟩ := hr4 (by omega)
          have p4 := hcl4 i (.pointer (some ⟨pt, 0, none⟩)) (by simp [ptrs, hpt])
          rw [← HBL2.out.cell (by rw [← HCE.out]; exact World.block_lt_of_cell? _ _ p4)] at p4
          have htk : Ls.take (i + 1) = Ls.take i ++ [L] := by
            obtain ⟨hlt, hge⟩ := List.getElem?_eq_some_iff.1 hL
            rw [List.take_succ_eq_append_getElem hlt, hge]
          have HTW := Lib.hid (ht.below (by rw [HCE.out]; exact HBL2.out))
          have HRA := Lib.hid (HASK.out.below HCE.out.symm HBL2.out)
          have HTL := Lib.hid htL
          have HLL := Lib.hid (HLS.out L hLmem)
          have HTK := Lib.hid htk
          have i1 : (i : Int) < (M : Int) := by omega
          have i2 : (0 : Int) ≤ (i : Int) := by omega
          clear hpi hLi hpt hL hLmem ht htL htG hl4 hc4 hm4 hr4 hcl4 htk
          cases gk with
          | zero => omega
          | succ k =>
            go_wp2_with fail
            refine (aventries_any _ (ask0 ks) wr HRA.out (by have := HALEN.out; omega)).mono ?_
            rintro e w2 ⟨u2, rfl, hsl2, hb2⟩
            have hin := gets_any pt t u2 (ask0 ks) w2 (HTW.out.below hb2) hsl2 (by have := HALEN.out; omega)
            have HIN := Lib.hid hin
            have HBA := Lib.hid hb2
            clear hin hsl2 hb2 p4
            go_wp2_with fail
            refine HIN.out.mono ?_
            rintro e w3 ⟨q3, c3, rfl, hown3, hb3⟩
            have hbz3 : Below wr.heap.size wr w3 := HBA.out.trans (hb3.mono HBA.out.size)
            have hs3 : C ≤ w3.heap.size := Nat.le_trans hsz2 hbz3.size
            have hsl3 : Sl w3 (.slice q3 (ask0 ks).length c3) ((getOs L (ask0 ks)).map oent) := by
              rw [getOs_vals, ← HTL.out]
              exact Sl.of_owns hown3
            have hca := HAS.out pt t (.slice q3 (ask0 ks).length c3) (getOs L (ask0 ks)) w3 (HTW.out.below hbz3) hsl3 (by rw [getOs_len]; have := HALEN.out; omega) (by rw [HTL.out]; have := HLL.out; omega)
            rw [HTL.out] at hca
            obtain ⟨al, hal⟩ : ∃ al, (ask0 ks).length = al := ⟨_, rfl⟩
            obtain ⟨ul, hul⟩ : ∃ ul, (getOs L (ask0 ks)).length = ul := ⟨_, rfl⟩
            obtain ⟨ln, hln⟩ : ∃ ln, L.length = ln := ⟨_, rfl⟩
            rw [hul, hln, hal] at hca
            rw [hal]
            have HCA := Lib.hid hca
            have HUL := Lib.hid (And.intro hul hln)
            have HB3 := Lib.hid (HBL2.out.trans (hbz3.mono hsz2))
            have HBZ := Lib.hid hbz3
            clear hown3 hb3 hbz3 hsl3 hca hul hal hln HIN HTW HRA
            go_wp2_with fail
            refine HCA.out.mono ?_
            rintro e w6 ⟨q5, c5, q6, c6, rfl, ho1, ho2, hb6⟩
            have hbz6 : Below wr.heap.size wr w6 := HBZ.out.trans (hb6.mono HBZ.out.size)
            have HO1 := Lib.hid ho1
            have HO2' := Lib.hid ho2
            have HB6 := Lib.hid (HB3.out.trans (hb6.mono hs3))
            have HOO6 : Hid (w6.ownsRow C 36 3 (.slice q2 i c2) i rows2.flatten) := Lib.hid ((Fr.of_below [] hbz6).own HOW2.out (fun _ _ h => by cases h))
            have HSA6 := Lib.hid (HSA2.out.below hbz6)
            have hs6 : C ≤ w6.heap.size := Nat.le_trans hs3 hb6.size
            have hone : ∀ u ∈ (#[.int .i64 (ln : Int), .slice q5 ul c5, .slice q6 ul c6] : Array Value).toList, u.oneCell' = true := by
              intro u hu
              simp at hu
              rcases hu with rfl | rfl | rfl <;> rfl
            have HON := Lib.hid hone
            clear ho1 ho2 hb6 hone hbz6
            go_wp2_with (at_builtin; refine wpList_appendS rfl _ _ 29 rfl C 3 36 (.agg #[.int .i64 0, .slice none 0 0, .slice none 0 0]) 56 Try.underlying29 info_avs rfl (by decide) (.slice q2 i c2) i rows2.flatten rfl HOO6.out #[.int .i64 (ln : Int), .slice q5 ul c5, .slice q6 ul c6] rfl rfl HON.out (by unfold maxLen; omega) (by omega) (by omega) ?_; intro g7 cap7 w7 hown7 hg7 hb7; have HO7 := Lib.hid hown7; have HG7 := Lib.hid hg7; have HB7 := Lib.hid hb7; clear hown7 hg7 hb7)
            go_roundg k
            case measure => omega
            case rel =>
              obtain ⟨hE1, hE2⟩ := HUL.out
              have hff : Fr (obl (.slice q2 i c2)) (obl (.slice q2 i c2)) w6 w7 := Fr.of_grown (v' := .slice q2 i c2) HG7.out (fun k hk => .inl hk)
              refine ⟨i + 1, _, _, rows2 ++ [[.int .i64 (ln : Int), .slice q5 ul c5, .slice q6 ul c6]], rfl, by go_num, by omega, by simpa using HO7.out, ?_, by simp [HRN2.out], ?_, HB6.out.trans HB7.out⟩
              · intro r hr
                rcases List.mem_append.1 hr with h | h
                · exact HRL2.out r h
                · simp at h; subst h; rfl
              · rw [HTK.out, List.map_append]
                refine (HSA6.out.row HOO6.out (by decide) (by decide) hff).snoc ⟨q5, c5, q6, c6, ?_, ?_, ?_⟩
                · show ([.int .i64 (ln : Int), .slice q5 ul c5, .slice q6 ul c6] : List Value) = [.int .i64 (L.length : Int), .slice q5 (getOs L (ask0 ks)).length c5, .slice q6 (getOs L (ask0 ks)).length c6]
                  rw [hE1, hE2]
                · show w7.ownsRow C _ 2 (.slice q5 (getOs L (ask0 ks)).length c5) (getOs L (ask0 ks)).length (aes ((getOs L (ask0 ks)).map oget)).flatten
                  rw [hE1]
                  exact own_base' (hff.own HO1.out (row_row HO1.out HOO6.out (by decide))) hs3
                · show w7.ownsRow C _ 1 (.slice q6 (getOs L (ask0 ks)).length c6) (getOs L (ask0 ks)).length (bvs ((getOs L (ask0 ks)).map Option.isSome))
                  rw [hE1]
                  exact own_base' (hff.own HO2'.out (row_row HO2'.out HOO6.out (by decide))) hs3
        · obtain rfl : i = M := by omega
          rw [List.take_of_length_le (by rw [HM.out]; exact Nat.le_refl _)] at HSA2
          clear HT2 HO2 HASK
          go_wp2_with fail
          go_ret
          exact ⟨q2, c2, rows2, rfl, own_base' HOW2.out hwC, HRL2.out, HRN2.out, HSA2.out.base hwC, HB2.out.trans (HBL2.out.mono hwC)⟩
end Go.Proofs.Ytnfkjcopeljknaa
