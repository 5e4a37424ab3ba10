/- FnFIRuns. -/
import Derived.Test.YtdmkijdokmnicaaFiSteps
import Derived.Test.YtdmkijdokmnicaaFiLens
import Derived.Test.YtdmkijdokmnicaaOpenRow
import Derived.Laws.StructEq
import Derived.OpenShut
namespace Go.Proofs.Ytdmkijdokmnicaa
set_option linter.unusedVariables false
open Go.RowKit

theorem cnt_le2 (xs : List FStep) : (fiSt xs).2 ≤ xs.length := by
  suffices ∀ s : FMap × Nat, (xs.foldl fiNext s).2 ≤ s.2 + xs.length by
    have := this ([], 0)
    simpa [fiSt] using this
  induction xs with
  | nil => intro s; simp
  | cons x r ih =>
    intro s
    rw [List.foldl_cons]
    have h := ih (fiNext s x)
    have e : (fiNext s x).2 ≤ s.2 + 1 := by
      unfold fiNext
      split
      · exact Nat.le_refl _
      · split
        · simp only
          split <;> omega
        · omega
    simp only [List.length_cons]
    omega
theorem Rw.at2 {S : Nat} {w : World} {a : Option Addr} {m c : Nat} {rows : List (List Value)} {n : Nat} (h : Rw S w (.slice a m c) rows) (hn : rows.length = n) (h0 : 0 < n) : ∃ b off, a = some ⟨b, off, none⟩ ∧ ∀ i row, rows[i]? = some row → ∀ j u, row[j]? = some u → w.cell? ⟨b, off + (i * S + j), none⟩ = some u := by
  obtain ⟨a', n', cap, e, hn', hc, hm, hr⟩ := h
  injection e with e1 e2 e3
  subst e1
  exact hr (by omega)
def AnySteps (w : World) (v : Value) : Prop := ∃ l : List FStep, Rw 3 w v (l.map stepRow)
theorem steps_map {p : List Value → Prop} (h : ∀ r, p r → ∃ x : FStep, r = stepRow x) : ∀ rows : List (List Value), (∀ r ∈ rows, p r) → ∃ l : List FStep, rows = l.map stepRow := by
  intro rows
  induction rows with
  | nil => intro _; exact ⟨[], rfl⟩
  | cons r rs ih =>
    intro hr
    obtain ⟨x, rfl⟩ := h r (hr r (by simp))
    obtain ⟨l, rfl⟩ := ih (fun q hq => hr q (by simp [hq]))
    exact ⟨x :: l, rfl⟩
set_option maxRecDepth 100000 in
theorem open_steps {H : Type} {enc : TypeId × Value → H} {W : World} {v : Value} {d : DataW H} {p : List MemPlace} {r : Reach} {b0 : Nat}
    (hv : Value.okWide Try.prog W r b0 25 v) (h : DataW.Trod enc Try.prog W 0 (fun _ => true) true 25 v d p) : AnySteps W v := by
  obtain ⟨rows, h1, h2, h3⟩ := open_rows Try.underlying25 (S := 3) (by kernel_rfl) (by decide) hv h
  obtain ⟨l, rfl⟩ := steps_map (p := fun row => row.length = 3 ∧ Reads enc Try.prog W 27 row) (fun row hr => by
    have hf := hr.2.field Try.underlying27 (by kernel_rfl) hr.1
    obtain ⟨u0, e0, r0⟩ := hf 0 _ rfl
    obtain ⟨u1, e1, r1⟩ := hf 1 _ rfl
    obtain ⟨u2, e2, r2⟩ := hf 2 _ rfl
    obtain ⟨n0, rfl, _⟩ := r0.int Try.underlying3
    obtain ⟨n1, rfl, _⟩ := r1.int Try.underlying23
    obtain ⟨n2, rfl, _⟩ := r2.int Try.underlying23
    refine ⟨⟨n0, n1, n2⟩, ?_⟩
    have hl := hr.1
    match row, hl, e0, e1, e2 with
    | [a, b, c], _, e0, e1, e2 =>
      simp at e0 e1 e2
      subst e0; subst e1; subst e2
      rfl) rows (fun row hr => ⟨h2 row hr, h3 row hr⟩)
  exact ⟨l, h1⟩
theorem ans_eq {st : FMap × Nat} {x : FStep} {a : Int × Bool} (hop : OpOk x) (h6 : x.op ≠ 6) (hc : x.op ≤ 4 ∨ st.2 = st.1.length) (h : fiAns st x a) : a = spAns st.1 x := by
  obtain ⟨a1, a2⟩ := a
  unfold fiAns at h
  unfold spAns
  by_cases h2 : x.op = 2
  · rw [if_pos h2] at h ⊢
    simp only at h
    rw [h.1, h.2]
  · rw [if_neg h2] at h ⊢
    by_cases h3 : x.op = 3
    · rw [if_pos h3] at h ⊢
      simp only at h
      rw [h.1, h.2]
    · rw [if_neg h3] at h ⊢
      by_cases h5 : x.op = 5
      · rw [if_pos h5] at h ⊢
        simp only at h
        have : st.2 = st.1.length := by rcases hc with hc | hc; omega; exact hc
        rw [h.1, h.2, this]
      · rw [if_neg h5] at h ⊢
        rw [if_neg h6] at h
        simp only at h
        rw [h.1, h.2]
theorem ans_six {st : FMap × Nat} {x : FStep} {a : Int × Bool} (h6 : x.op = 6) (hc : st.2 = st.1.length) (h : fiAns st x a) : ((fiNext st x).1.length : Int) ≤ a.1 ∧ a.2 = false := by
  have hn : fiNext st x = st := by simp [fiNext, h6]
  rw [hn]
  unfold fiAns at h
  rw [if_neg (by omega), if_neg (by omega), if_neg (by omega), if_pos h6] at h
  exact ⟨by rw [← hc]; exact h.1, h.2⟩

set_option maxRecDepth 100000 in
set_option maxHeartbeats 8000000 in
theorem law_firuns (F : Int → Nat) (hF : HomeIs F) (hint : Int) (u : Value) (w : World) (h0 : 0 ≤ hint) (h1 : hint < 65536) (hu : AnySteps w u) :
    Calls Try.prog 4 #[.int .u16 hint, u] w fun e w' => e = .returned (.bool true) ∧ Below w.heap.size w w' := by
  obtain ⟨ys, hu⟩ := hu
  have HU := Lib.hid hu
  obtain ⟨ua, n, uc, rfl, hul, huc, hum, hur⟩ := hu
  rw [List.length_map] at hul
  have hnm : n ≤ 9223372036854775807 := by unfold maxLen at hum; omega
  clear hur huc hum
  go_enter Try.func4, Try.ntmps4
  by_cases hbig : 2147483647 < n
  · have hd : decide ((2147483647 : Int) < (n : Int)) = true := by simp; omega
    go_wp2_with fail
    go_ret
    exact ⟨rfl, Below.refl _ _⟩
  · have hd : decide ((2147483647 : Int) < (n : Int)) = false := by simp; omega
    obtain ⟨h, hh⟩ : ∃ h : Nat, (hint % 601 : Int) = (h : Int) := ⟨(hint % 601).toNat, by omega⟩
    have hh6 : h ≤ 601 := by omega
    go_wp2_with fail
    refine (fisteps_any _ ys w HU.out (by omega)).mono ?_
    rintro e w1 ⟨v5, xs, rfl, hrw, hxl, hop, htw, hb1⟩
    have HX := Lib.hid hrw
    have HOP := Lib.hid hop
    have HTW := Lib.hid htw
    have HB1 := Lib.hid hb1
    have HXL := Lib.hid hxl
    clear hrw hop htw hb1
    obtain ⟨a5, m, c5, rfl, hml, hmc, hmm, hmr⟩ := id HX.out
    rw [List.length_map] at hml
    have HML := Lib.hid hml
    have hm2 : m ≤ 200 := by omega
    have HMR := Lib.hid hmr
    clear hml hmc hmr hxl
    go_wp2_with fail
    refine (firun_any F hF h _ xs m w1 hh6 HX.out HML.out (by omega) HOP.out (fun j _ => by
      refine Nat.le_trans (cnt_le2 _) ?_
      have := HXL.out
      rw [List.length_take]
      omega)).mono ?_
    rintro e w2 ⟨v6, ans, rfl, hrw2, hal, hans, hb2⟩
    have HR2 := Lib.hid hrw2
    have HAL := Lib.hid hal
    have HANS := Lib.hid hans
    have HB2 := Lib.hid hb2
    have hsz1 := HB1.out.size
    have hsz2 := hb2.size
    clear hrw2 hal hans hb2
    obtain ⟨a6, m6, c6, rfl, hm6, _, _, _⟩ := id HR2.out
    obtain rfl : m6 = m := by rw [List.length_map, HAL.out] at hm6; exact hm6.symm
    clear hm6
    go_wp2_with fail
    refine (fispec_any _ xs m6 w2 (HX.out.below rfl HB2.out) HML.out (by omega)).mono ?_
    rintro e w3 ⟨v7, rfl, hrw3, hb3⟩
    have HR3 := Lib.hid hrw3
    have HB3 := Lib.hid hb3
    have hsz3 := hb3.size
    clear hrw3 hb3
    obtain ⟨a7, m7, c7, rfl, hm7, _, _, _⟩ := id HR3.out
    obtain rfl : m7 = m6 := by rw [List.length_map] at hm7; rw [← hm7]; simp [spAll]
    clear hm7
    have hnb : ((m7 : Int) != (m7 : Int)) = false := by simp
    go_wp2_with fail
    refine (filens_any _ xs m7 w3 (HX.out.below rfl (HB2.out.trans (HB3.out.mono hsz2))) HML.out (by omega)).mono ?_
    rintro e w4 ⟨v8, rfl, hown4, hb4⟩
    have HO4 := Lib.hid hown4
    have HB4 := Lib.hid hb4
    have hsz4 := hb4.size
    have h8 : ∃ a8 c8, v8 = .slice a8 m7 c8 := by
      rcases hown4.2 with ⟨e, h⟩ | ⟨g, c, cur, e, _⟩
      · exact ⟨_, _, by rw [e, h]⟩
      · exact ⟨_, _, e⟩
    obtain ⟨a8, c8, rfl⟩ := h8
    clear hown4 hb4
    go_wp2_with fail
    go_loopg [9] m7 (fun k idx wr => ∃ i : Nat, idx = .int .i64 (i : Int) ∧ i + k = m7 ∧ Below w4.heap.size w4 wr)
    case atStart => exact ⟨0, rfl, by omega, Below.refl _ _⟩
    case round =>
      obtain ⟨i, rfl, hik, hbl⟩ := hrel
      have HBR := Lib.hid hbl
      cases gk with
      | zero =>
        obtain rfl : i = m7 := by omega
        have hd : decide ((i : Int) < (i : Int)) = false := by simp
        clear hbl
        go_wp2_with fail
        go_ret
        refine ⟨rfl, ?_⟩
        have hA := HB1.out.trans (HB2.out.mono hsz1)
        have hB := hA.trans (HB3.out.mono hA.size)
        have hC := hB.trans (HB4.out.mono hB.size)
        exact hC.trans (HBR.out.mono hC.size)
      | succ k =>
        have him : i < m7 := by omega
        have hii : (i : Int) < (m7 : Int) := by omega
        have hi0 : (0 : Int) ≤ (i : Int) := by omega
        have hb3 : Below w3.heap.size w3 wr := HB4.out.trans (hbl.mono hsz4)
        have hb2 : Below w2.heap.size w2 wr := HB3.out.trans (hb3.mono hsz3)
        have hb1 : Below w1.heap.size w1 wr := HB2.out.trans (hb2.mono hsz2)
        obtain ⟨b5, o5, rfl, hcell5⟩ := (HX.out.below rfl hb1).at2 (n := m7) (by rw [List.length_map]; exact HML.out) (by omega)
        obtain ⟨gb, go, gc, e6, hgm, hgc⟩ := (HR2.out.below rfl hb2).answers HAL.out (by omega)
        obtain ⟨sb, so, sc, e7, hsm, hsc⟩ := (HR3.out.below rfl hb3).answers (n := m7) (by simp [spAll]) (by omega)
        injection e6 with e61 e62 e63
        injection e7 with e71 e72 e73
        subst e61; subst e63; subst e71; subst e73
        clear e62 e72
        have hO4 := row_blw HO4.out hbl
        obtain ⟨g8, rfl⟩ : ∃ g8, a8 = some ⟨g8, 0, none⟩ := by
          rcases hO4.2 with ⟨_, h0⟩ | ⟨g, c, cur, e, _⟩
          · omega
          · injection e with e1; exact ⟨g, e1⟩
        have hx := hcell5 i _ (steprow_at xs i (by rw [HML.out]; exact him)) 0 _ rfl
        have hgi := hgc i him
        have hsi := hsc i him
        have hfa := HANS.out i _ (ans_some (by rw [HAL.out]; exact him))
        have hsp : ansAt (spAll xs m7) i = spAns (fiSt (xs.take i)).1 (fstepAt xs i) := by
          unfold ansAt spAll
          simp [him, spAt]
        have hop := HOP.out (fstepAt xs i) (by
          have : fstepAt xs i = xs[i]'(by rw [HML.out]; exact him) := by simp [fstepAt, HML.out, him]
          rw [this]; exact List.getElem_mem _)
        have hcl : (fstepAt xs i).op ≤ 4 ∨ (fiSt (xs.take i)).2 = (fiSt (xs.take i)).1.length := by
          rcases HTW.out with h | h
          · exact .inr (count_len xs h i (by rw [HML.out]; omega))
          · exact .inl (h _ (by
              have : fstepAt xs i = xs[i]'(by rw [HML.out]; exact him) := by simp [fstepAt, HML.out, him]
              rw [this]; exact List.getElem_mem _))
        rw [hsp] at hsi
        rw [Nat.add_zero] at hx
        obtain ⟨a, ha⟩ : ∃ a, ansAt ans i = a := ⟨_, rfl⟩
        rw [ha] at hgi hfa
        have hnx := fi_take xs i (by rw [HML.out]; exact him)
        obtain ⟨x, hxx⟩ : ∃ x, fstepAt xs i = x := ⟨_, rfl⟩
        rw [hxx] at hx hop hcl hfa hsi hnx
        by_cases h6 : x.op = 6
        · have hct : (fiSt (xs.take i)).2 = (fiSt (xs.take i)).1.length := by
            rcases hcl with h9 | h9
            · exact absurd h9 (by rw [h6]; decide)
            · exact h9
          obtain ⟨hN, hY⟩ := ans_six h6 hct hfa
          rw [← hnx] at hN
          rw [hY] at hgi
          have hl8 := hO4.cellAt i (by omega)
          have hl9 : (lensTo xs m7)[i]? = some (.int .i64 (lenAt xs i)) := by simp [lensTo, him]
          rw [hl9] at hl8
          have hln : lenAt xs i = ((fiSt (xs.take (i + 1))).1.length : Int) := rfl
          have hl200 := len_st xs (i + 1) (by rw [HML.out]; omega)
          obtain ⟨q, hq⟩ : ∃ q, (fiSt (xs.take (i + 1))).1.length = q := ⟨_, rfl⟩
          rw [hln, hq] at hl8
          rw [hq] at hN hl200
          have hq2 : (q : Int) ≤ 300 := by omega
          have hop6 : stepRow x = [.int .i64 6, .int .u64 x.key, .int .u64 x.val] := by simp [stepRow, h6]
          rw [show x.op = 6 from h6] at hx
          have g0 := hgi.1
          have g1 := hgi.2
          have hdN : decide (a.1 < (q : Int)) = false := by simp; omega
          clear hbl hb1 hb2 hb3 hcell5 hgc hsc hgi hsi hfa hsp hop hcl ha hnx hxx hO4 hl9 hln hq hct hY hN
          go_wp2_with fail
          go_quiet (fail)
          go_wp2_with fail
          go_roundg k
          case measure => omega
          case rel => exact ⟨i + 1, by go_num, by omega, bdrew HBR.out _⟩
        · have hae := ans_eq hop h6 hcl hfa
          rw [hae] at hgi
          have hd6 : (x.op == 6) = false := by simpa using h6
          obtain ⟨⟨an, ab⟩, hann⟩ : ∃ a, spAns (fiSt (xs.take i)).1 x = a := ⟨_, rfl⟩
          rw [hann] at hgi hsi
          have g0 := hgi.1
          have g1 := hgi.2
          have s0 := hsi.1
          have s1 := hsi.2
          simp only at g0 g1 s0 s1
          obtain ⟨xo, hxo⟩ : ∃ xo, x.op = xo := ⟨_, rfl⟩
          have hx : wr.cell? ⟨b5, o5 + i * 3, none⟩ = some (.int .i64 x.op) := hx
          rw [hxo] at hx hd6
          clear hbl hb1 hb2 hb3 hcell5 hgc hsc hgi hsi hfa hsp hop hcl ha hnx hxx hO4 hae hann hxo
          go_wp2_with fail
          go_quiet (fail)
          go_wp2_with fail
          go_roundg k
          case measure => omega
          case rel => exact ⟨i + 1, by go_num, by omega, bdrew HBR.out _⟩
theorem law_firuns' (hint : Int) (u : Value) (w : World) (w0 : (Lit.int .u16 hint).wf = true) (hu : AnySteps w u) :
    Calls Try.prog 4 #[.int .u16 hint, u] w fun e w' => e = .returned (.bool true) ∧ Below w.heap.size w w' := by
  have b0 := bounds_u16 w0
  obtain ⟨F, hF⟩ := fihome_ex
  exact law_firuns F hF hint u w (by omega) (by omega) hu
end Go.Proofs.Ytdmkijdokmnicaa
