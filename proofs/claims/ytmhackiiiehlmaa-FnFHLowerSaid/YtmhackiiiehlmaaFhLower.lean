/- laws.fhPast, and the walk of the law FnFHLower. -/
import Derived.Test.YtmhackiiiehlmaaFhOut
import Derived.Test.YtmhackiiiehlmaaFhPlainL
namespace Go.Proofs.Ytmhackiiiehlmaa
set_option linter.unusedVariables false
open Go.RowKit Go.Sort Go.Lib

theorem fown_n {w : World} {B : Nat} {e : TypeId} {z : Nat} {p : Option Addr} {m c n : Nat} {xs : List Value} (h : w.ownsRow B e z (.slice p m c) n xs) : m = n := by
  rcases h.2 with ⟨e, h0⟩ | ⟨g, cap, cur, e, _⟩
  · injection e with e1 e2 e3; omega
  · injection e with e1 e2 e3
theorem rows_four (S : List (Int × Int × Int)) : ∀ r ∈ S.map stepL, r.length = 4 := fun r hr => by
  obtain ⟨x, -, rfl⟩ := List.mem_map.1 hr
  rfl
theorem rows_one (S : List (Int × Int × Int)) : ∀ u ∈ (S.map stepL).flatten, u.oneCell' = true := fun u hu => by
  obtain ⟨r, hr, hur⟩ := List.mem_flatten.1 hu
  obtain ⟨x, -, rfl⟩ := List.mem_map.1 hr
  simp [stepL] at hur
  rcases hur with rfl | rfl | rfl | rfl <;> rfl
abbrev putsS (l : List Int) : List (Int × Int × Int) := l.map fun p => ((1 : Int), (0 : Int), p)
abbrev cPast : Int := -1099511627776
theorem puts_snoc (i : Nat) : putsS (List.replicate (i + 1) cPast) = putsS (List.replicate i cPast) ++ [(1, 0, -1099511627776)] := by
  unfold putsS
  rw [List.replicate_succ', List.map_append]; rfl
set_option maxRecDepth 100000 in
set_option maxHeartbeats 2000000 in
theorem fhpast_any (v : Value) (xs : List Int) (f : Nat) (w : World) (hv : Sl w v (ints xs)) (hn : xs.length ≤ 30) (hf : f ≤ 255) :
    Calls Try.prog 8 #[v, .int .u8 (f : Int)] w fun e w' => (∃ pa ca, e = .returned (.tuple #[.slice pa ((1 + f % 5) + xs.length + (1 + f % 5)) ca, .int .i64 ((1 + f % 5 : Nat) : Int)]) ∧ w'.ownsRow w.heap.size 32 4 (.slice pa ((1 + f % 5) + xs.length + (1 + f % 5)) ca) ((1 + f % 5) + xs.length + (1 + f % 5)) (rowsS (pastS cPast (1 + f % 5) xs))) ∧ Below w.heap.size w w' := by
  obtain ⟨g, hg⟩ : ∃ g, 1 + f % 5 = g := ⟨_, rfl⟩
  have hg6 : g ≤ 5 := by omega
  have hrem : Int.tmod (f : Int) 5 = ((f % 5 : Nat) : Int) := by
    rw [Int.tmod_eq_emod_of_nonneg (by omega)]; omega
  obtain ⟨r, hr⟩ : ∃ r, f % 5 = r := ⟨_, rfl⟩
  have hr5 : r < 5 := by omega
  rw [hr] at hrem hg
  have hadd : (1 : Int) + (r : Int) = (g : Int) := by omega
  have hwf : IntKind.i64.wrap (f : Int) = (f : Int) := by simp only [IntKind.wrap, IntKind.signed, IntKind.bits]; simp; omega
  have HG := Lib.hid hg
  have HV := Lib.hid hv
  have HR := Lib.hid hr
  rw [hr, hg]
  have hself : w.heap.size ≤ w.heap.size := Nat.le_refl _
  obtain ⟨a, n, cap, rfl, hl, -, -, -⟩ := hv
  rw [List.length_map] at hl
  have HL := Lib.hid hl
  rw [hl] at hn ⊢
  clear hg hr hl
  go_enter Try.func8, Try.ntmps8
  go_wp2_with fail
  go_loopg [7, 13] g (fun kk s7 s13 wr => ∃ (i : Nat) (pa : Option Addr) (ca : Nat), i + kk = g ∧ s13 = .int .i64 (i : Int) ∧ s7 = .slice pa i ca ∧ wr.ownsRow w.heap.size 32 4 (.slice pa i ca) i (rowsS (putsS (List.replicate i cPast))) ∧ Below w.heap.size w wr)
  case atStart => exact ⟨0, none, 0, by omega, rfl, rfl, World.ownsRow_nil _ _ _ _, Below.refl _ _⟩
  case round =>
    obtain ⟨i, pa, ca, hik, rfl, rfl, hown, hbel⟩ := hrel
    have HO := Lib.hid hown
    have HB := Lib.hid hbel
    have hsz := hbel.size
    clear hown hbel
    by_cases hi : i < g
    · have HON := Lib.hid (step_ones 1 0 (-1099511627776))
      go_wp2_with (at_builtin; refine wpList_appendS rfl _ _ 25 rfl w.heap.size 4 32 (.agg #[.int .i64 0, .int .i64 0, .int .i64 0, .slice none 0 0]) 48 Try.underlying25 info_step rfl (by decide) (.slice pa i ca) i (rowsS (putsS (List.replicate i cPast))) rfl HO.out #[.int .i64 1, .int .i64 0, .int .i64 (-1099511627776), .slice none 0 0] rfl rfl HON.out (by unfold maxLen; omega) (by omega) hsz ?_; intro g7 cap7 w7 hown7 hg7 hb7; have HO7 := Lib.hid hown7; have HB7 := Lib.hid hb7; clear hown7 hg7 hb7)
      go_roundg (gk - 1)
      case measure => omega
      case rel => exact ⟨i + 1, some ⟨g7, 0, none⟩, cap7, by omega, rfl, rfl, by rw [puts_snoc, rowsS_snoc]; exact HO7.out, HB.out.trans HB7.out⟩
    · have hin : i = g := by omega
      subst hin
      obtain ⟨wa, rfl⟩ : ∃ y, y = wr := ⟨_, rfl⟩
      have HPT := Lib.hid (fhput_any (.slice a n cap) xs wa (HV.out.below rfl HB.out) (by rw [HL.out]; omega))
      rw [HL.out] at HPT
      go_wp2_with fail
      refine HPT.out.mono ?_
      rintro e w2 ⟨⟨pb, cb, rfl, hown2⟩, hb2⟩
      have HO2 := Lib.hid ((Fr.of_below [] hb2).own HO.out (fun _ _ h => by cases h))
      have HRW := Lib.hid (Rw.of_owns (rows := (putsS xs).map stepL) (rows_four _) (by decide) hown2)
      have HB2 := Lib.hid (HB.out.trans (hb2.mono hsz))
      have hsz2 : w.heap.size ≤ w2.heap.size := Nat.le_trans hsz hb2.size
      have hrl : ((putsS xs).map stepL).length = n := by rw [List.length_map, List.length_map, HL.out]
      have HRL := Lib.hid hrl
      clear hown2 hb2 hrl
      go_wp2_with (at_builtin; refine wpList_apRw rfl _ _ 25 rfl w.heap.size 4 32 (.agg #[.int .i64 0, .int .i64 0, .int .i64 0, .slice none 0 0]) 48 Try.underlying25 info_step rfl (by decide) (.slice pa i ca) i (rowsS (putsS (List.replicate i cPast))) rfl HO2.out (.slice pb n cb) ((putsS xs).map stepL) rfl HRW.out (rows_four _) (rows_one _) (by rw [HRL.out]; unfold maxLen; omega) (by rw [HRL.out]; omega) hsz2 ?_; intro p6 m6 c6 w6 hown6 hg6 hb6; have HO6 := Lib.hid hown6; have HB6 := Lib.hid hb6; clear hown6 hg6 hb6)
      have hm6 : m6 = i + n := by have h := fown_n HO6.out; rw [HRL.out] at h; exact h
      subst hm6
      have hown6 : w6.ownsRow w.heap.size 32 4 (.slice p6 (i + n) c6) (i + n) (rowsS (putsS (List.replicate i cPast ++ xs))) := by
        have h := HO6.out
        rw [HRL.out] at h
        unfold rowsS putsS at h ⊢
        rw [List.map_append, List.map_append, List.flatten_append]
        exact h
      have HO7 := Lib.hid hown6
      have HB7 := Lib.hid (HB2.out.trans HB6.out)
      clear hown6 HO6
      go_loopg [7, 25] i (fun kk s7 s25 wr => ∃ (j N1 : Nat) (pa : Option Addr) (ca : Nat), j + kk = i ∧ N1 = i + n + j ∧ s25 = .int .i64 (j : Int) ∧ s7 = .slice pa N1 ca ∧ wr.ownsRow w.heap.size 32 4 (.slice pa N1 ca) N1 (rowsS (putsS (List.replicate i cPast ++ xs) ++ List.replicate j deqS)) ∧ Below w.heap.size w wr)
      case atStart => exact ⟨0, i + n, p6, c6, by omega, rfl, rfl, rfl, by simpa using HO7.out, HB7.out⟩
      case round =>
        obtain ⟨j, N1, pa2, ca2, hjk, hN1, rfl, rfl, hown, hbel⟩ := hrel
        have HO8 := Lib.hid hown
        have HB8 := Lib.hid hbel
        have HN1 := Lib.hid hN1
        have hsz8 := hbel.size
        have hNb : N1 ≤ 100 := by omega
        clear hown hbel hN1
        by_cases hj : j < i
        · have HON := Lib.hid (step_ones 3 0 0)
          go_wp2_with (at_builtin; refine wpList_appendS rfl _ _ 25 rfl w.heap.size 4 32 (.agg #[.int .i64 0, .int .i64 0, .int .i64 0, .slice none 0 0]) 48 Try.underlying25 info_step rfl (by decide) (.slice pa2 N1 ca2) N1 (rowsS (putsS (List.replicate i cPast ++ xs) ++ List.replicate j deqS)) rfl HO8.out #[.int .i64 3, .int .i64 0, .int .i64 0, .slice none 0 0] rfl rfl HON.out (by unfold maxLen; omega) (by omega) hsz8 ?_; intro g7 cap7 w7 hown7 hg7 hb7; have HO9 := Lib.hid hown7; have HB9 := Lib.hid hb7; clear hown7 hg7 hb7)
          go_roundg (gk - 1)
          case measure => omega
          case rel => exact ⟨j + 1, N1 + 1, some ⟨g7, 0, none⟩, cap7, by omega, by rw [HN1.out]; omega, rfl, rfl, by rw [deqs_snoc, rowsS_snoc]; exact HO9.out, HB8.out.trans HB9.out⟩
        · have hjn : j = i := by omega
          subst hjn
          have hN2 : N1 = j + n + j := HN1.out
          subst hN2
          go_wp2_with fail
          go_ret2
          exact ⟨⟨pa2, ca2, rfl, HO8.out⟩, HB8.out⟩
/-- what each priority becomes -/
abbrev lowP (xs ys : List Int) : List Int := (List.range xs.length).map fun i => xs.getD i 0 - 1 - ys.getD i 0
theorem lowP_at {xs ys : List Int} {i : Nat} (hi : i < xs.length) : (lowP xs ys).getD i 0 = xs.getD i 0 - 1 - ys.getD i 0 := by
  rw [List.getD_eq_getElem?_getD, List.getElem?_map, List.getElem?_range hi]; rfl
theorem low_snoc (g : Nat) (ps : List Int) (k j : Nat) (hj : ps.length - (k + 1) = j) : decL g ps (k + 1) = decL g ps k ++ [((4 : Int), ((g + j : Nat) : Int), ps.getD j 0)] := by
  subst hj; rfl
theorem rev_snoc {ps : List Int} {j : Nat} (hj : j < ps.length) : (ps.drop j).reverse = (ps.drop (j + 1)).reverse ++ [ps.getD j 0] := by
  rw [List.drop_eq_getElem_cons hj, List.reverse_cons, List.getD_eq_getElem?_getD, List.getElem?_eq_getElem hj]; rfl
set_option maxRecDepth 100000 in
set_option maxHeartbeats 4000000 in
theorem fhlower_any (h4 : Step4C) (v0 v1 : Value) (f : Int) (w : World) (hv : IsInts .i64 w v0) (hv1 : IsInts .u8 w v1) (hf : (Lit.int .u8 f).wf = true) :
    Calls Try.prog 4 #[v0, v1, .int .u8 f] w fun e w' => e = .returned (.bool true) ∧ Below w.heap.size w w' := by
  have H4 := Lib.hid h4
  clear h4
  obtain ⟨f, rfl, hf2⟩ : ∃ f' : Nat, f = (f' : Int) ∧ f' ≤ 255 := by
    simp [Lit.wf, IntKind.min, IntKind.max, IntKind.signed, IntKind.bits] at hf
    exact ⟨f.toNat, by omega, by omega⟩
  obtain ⟨xs, hsl, hwf⟩ := hv
  obtain ⟨ys, hsl1, hwf1⟩ := hv1
  have HV := Lib.hid hsl
  have HV1 := Lib.hid hsl1
  have HWF := Lib.hid hwf
  have hyb : ∀ y ∈ ys, 0 ≤ y ∧ y ≤ 255 := fun y hy => by
    have := hwf1 y hy
    simp [Lit.wf, IntKind.min, IntKind.max, IntKind.signed, IntKind.bits] at this
    omega
  have HYB := Lib.hid hyb
  obtain ⟨a, n, cap, rfl, hl, hc, hm, hr⟩ := hsl
  obtain ⟨a1, n1, cap1, rfl, hl1, hc1, hm1, hr1⟩ := hsl1
  rw [List.length_map] at hl hl1
  have hm2 : (n : Int) ≤ 9223372036854775807 := by unfold maxLen at hm; omega
  have hm3 : (n1 : Int) ≤ 9223372036854775807 := by unfold maxLen at hm1; omega
  have HL := Lib.hid hl
  have HL1 := Lib.hid hl1
  have HR := Lib.hid hr
  have HR1 := Lib.hid hr1
  clear hr hm hc hl hwf hr1 hm1 hc1 hl1 hwf1 hyb hf
  by_cases h1 : 2147483647 < (n : Int)
  · go_enter Try.func4, Try.ntmps4
    go_wp2_with fail
    go_ret
    exact ⟨rfl, Below.refl _ _⟩
  by_cases h2 : 2147483647 < (n1 : Int)
  · go_enter Try.func4, Try.ntmps4
    go_wp2_with fail
    go_ret
    exact ⟨rfl, Below.refl _ _⟩
  by_cases h3 : 30 < (n : Int)
  · go_enter Try.func4, Try.ntmps4
    go_wp2_with fail
    go_ret
    exact ⟨rfl, Below.refl _ _⟩
  by_cases h4 : n1 < n
  · go_enter Try.func4, Try.ntmps4
    go_wp2_with fail
    go_ret
    exact ⟨rfl, Below.refl _ _⟩
  have hn30 : n ≤ 30 := by omega
  have hnn : n ≤ n1 := by omega
  have HPR := Lib.hid (prios_any (.slice a n cap) xs (-1099511627476) w HV.out (by rw [HL.out]; omega))
  go_enter Try.func4, Try.ntmps4
  go_wp2_with fail
  refine HPR.out.mono ?_
  rintro e w1 ⟨⟨b, rfl, hb⟩, rfl⟩
  cases b with
  | false =>
    go_wp2_with fail
    go_ret
    exact ⟨rfl, Below.refl _ _⟩
  | true =>
    have hps := hb rfl
    have HPS := Lib.hid hps
    have HPT := Lib.hid (fhpast_any (.slice a n cap) xs f w1 HV.out (by rw [HL.out]; exact hn30) hf2)
    rw [HL.out] at HPT
    obtain ⟨g, hg⟩ : ∃ g, 1 + f % 5 = g := ⟨_, rfl⟩
    have hg5 : g ≤ 5 := by omega
    rw [hg] at HPT
    clear hb hps hg
    go_wp2_with fail
    refine HPT.out.mono ?_
    rintro e w2 ⟨⟨pa, ca, rfl, hown⟩, hb2⟩
    have HO := Lib.hid hown
    have HB2 := Lib.hid hb2
    clear hown hb2
    obtain ⟨ps, hps⟩ : ∃ ps, lowP xs ys = ps := ⟨_, rfl⟩
    have hpsl : ps.length = n := by rw [← hps, List.length_map, List.length_range, HL.out]
    have HPSD := Lib.hid hps
    have HPSL := Lib.hid hpsl
    clear hps hpsl
    have hlow : Hid (∀ i, i < n → ∃ x y, xs[i]? = some x ∧ ys[i]? = some y ∧ ps.getD i 0 = x - 1 - y ∧ xs.getD i 0 = x ∧ -1099511627476 ≤ x ∧ x ≤ 1099511627776 ∧ 0 ≤ y ∧ y ≤ 255) := Lib.hid (fun i hi => by
      have hxi : i < xs.length := by rw [HL.out]; exact hi
      have hyi : i < ys.length := by rw [HL1.out]; omega
      refine ⟨xs[i], ys[i], List.getElem?_eq_getElem hxi, List.getElem?_eq_getElem hyi, ?_, ?_, ?_⟩
      · rw [← HPSD.out, lowP_at hxi, List.getD_eq_getElem?_getD, List.getD_eq_getElem?_getD, List.getElem?_eq_getElem hxi, List.getElem?_eq_getElem hyi]; rfl
      · rw [List.getD_eq_getElem?_getD, List.getElem?_eq_getElem hxi]; rfl
      · have q1 := HPS.out _ (List.getElem_mem hxi)
        have q2 := HYB.out _ (List.getElem_mem hyi)
        exact ⟨q1.1, q1.2, q2.1, q2.2⟩)
    have hgood : Hid (GoodS (pastS cPast g xs ++ decL g ps n) ps.reverse) := Lib.hid (by
      have h := good_lower (c := cPast) (g := g) (l := xs) (ps := ps) (by show (-4398046511104 : Int) ≤ -1099511627776 ∧ (-1099511627776 : Int) ≤ 4398046511104; omega) (fun p hp => by
        have := HPS.out p hp
        unfold Sm
        constructor
        · show (-1099511627776 : Int) < p; omega
        · omega) (by rw [HPSL.out, HL.out]) (fun i hi => by
        obtain ⟨x, y, -, -, e1, e2, h1, h2, h3, h4⟩ := hlow.out i (by rw [← HL.out]; exact hi)
        rw [e1, e2]
        unfold Sm
        omega) (by rw [HL.out]; omega)
      rw [HL.out] at h
      exact h)
    have hwn : wrap64 ((n : Int) - 1) = (n : Int) - 1 := by unfold wrap64; omega
    have hsz2 : w1.heap.size ≤ w2.heap.size := HB2.out.size
    go_wp2_with fail
    go_loopg [7, 9, 10] n (fun kk s7 s9 s10 wr => ∃ (i kw N1 : Nat) (pa' pw : Option Addr) (ca' cw : Nat), i = kk ∧ kw + i = n ∧ N1 = (g + n + g) + kw ∧ s10 = .int .i64 ((i : Int) - 1) ∧ s7 = .slice pa' N1 ca' ∧ s9 = .slice pw kw cw ∧ wr.ownsRow w1.heap.size 32 4 (.slice pa' N1 ca') N1 (rowsS (pastS cPast g xs ++ decL g ps kw)) ∧ wr.ownsRow w1.heap.size 3 1 (.slice pw kw cw) kw (ints ((ps.drop i).reverse)) ∧ Below w1.heap.size w1 wr)
    case atStart =>
      refine ⟨n, 0, g + n + g, pa, none, ca, 0, rfl, by omega, by omega, rfl, rfl, rfl, by simpa [decL] using HO.out, ?_, HB2.out⟩
      rw [List.drop_eq_nil_of_le (by rw [HPSL.out]; exact Nat.le_refl _)]
      exact World.ownsRow_nil _ _ _ _
    case round =>
      obtain ⟨i, kw, N1, pa', pw, ca', cw, rfl, hkw, hN1, rfl, rfl, rfl, hown, hownw, hbel⟩ := hrel
      have HOS := Lib.hid hown
      have HOW := Lib.hid hownw
      have HB := Lib.hid hbel
      have hsz := hbel.size
      have HN1 := Lib.hid hN1
      have hNb : N1 ≤ 100 := by omega
      have hkb : kw ≤ 30 := by omega
      clear hown hownw hN1
      cases i with
      | succ j =>
        have ej : (((j + 1 : Nat) : Int) - 1) = (j : Int) := by omega
        rw [ej]
        obtain ⟨x, y, hx, hy, hp, -, hx1, hx2, hy1, hy2⟩ := hlow.out j (by omega)
        obtain ⟨b, off, rfl, hcell⟩ := HR.out (by omega)
        obtain ⟨b1, off1, rfl, hcell1⟩ := HR1.out (by omega)
        have hc := hcell j (.int .i64 x) (by rw [List.getElem?_map, hx]; rfl)
        have hc1 := hcell1 j (.int .u8 y) (by rw [List.getElem?_map, hy]; rfl)
        rw [← hbel.cell (World.block_lt_of_cell? w1 _ hc)] at hc
        rw [← hbel.cell (World.block_lt_of_cell? w1 _ hc1)] at hc1
        obtain ⟨p, hpp⟩ : ∃ p, x - 1 - y = p := ⟨_, rfl⟩
        rw [hpp] at hp
        have hwx : IntKind.i64.wrap (x - 1) = x - 1 := by simp only [IntKind.wrap, IntKind.signed, IntKind.bits]; simp; omega
        have hwx2 : wrap64 (x - 1) = x - 1 := by unfold wrap64; omega
        have hwy : IntKind.i64.wrap y = y := by simp only [IntKind.wrap, IntKind.signed, IntKind.bits]; simp; omega
        have hwy2 : wrap64 y = y := by unfold wrap64; omega
        have hwp : IntKind.i64.wrap (x - 1 - y) = p := by rw [← hpp]; simp only [IntKind.wrap, IntKind.signed, IntKind.bits]; simp; omega
        have hwp2 : wrap64 (x - 1 - y) = p := by rw [← hpp]; unfold wrap64; omega
        have hgj : IntKind.i64.wrap ((g : Int) + (j : Int)) = ((g + j : Nat) : Int) := by simp only [IntKind.wrap, IntKind.signed, IntKind.bits]; simp; omega
        have hjm : wrap64 ((j : Int) - 1) = (j : Int) - 1 := by unfold wrap64; omega
        have hj0 : (0 : Int) ≤ (j : Int) := by omega
        have hjn : (j : Int) < (n : Int) := by omega
        have hjn1 : (j : Int) < (n1 : Int) := by omega
        have hjn' : j < n := by omega
        have hjn1' : j < n1 := by omega
        have HP := Lib.hid hp
        have HLS := Lib.hid (low_snoc g ps kw j (by rw [HPSL.out]; omega))
        have HRS := Lib.hid (rev_snoc (ps := ps) (j := j) (by rw [HPSL.out]; omega))
        clear hcell hcell1 hx hy hp hpp hbel ej hx1 hx2 hy1 hy2
        go_upto_region 10 with fail
        go_quiet (fail)
        go_upto_region 11 with fail
        obtain ⟨wq, hwq⟩ : ∃ wq, wq = wr.drewN nq := ⟨_, rfl⟩
        have hosq : wq.ownsRow w1.heap.size 32 4 (.slice pa' N1 ca') N1 (rowsS (pastS cPast g xs ++ decL g ps kw)) := by rw [hwq]; exact HOS.out
        have howq : wq.ownsRow w1.heap.size 3 1 (.slice pw kw cw) kw (ints ((ps.drop (j + 1)).reverse)) := by rw [hwq]; exact HOW.out
        have hbq : Below w1.heap.size w1 wq := by rw [hwq]; have h := HB.out; exact ⟨h.os, h.tape, h.output, h.size, h.block⟩
        have hapq : ∀ k ∈ obl (.slice pw kw cw), k ∉ obl (.slice pa' N1 ca') := fun k hk hm => row_row howq hosq (by decide) k hk hm
        have HOSQ := Lib.hid hosq
        have HOWQ := Lib.hid howq
        have HBQ := Lib.hid hbq
        have HAPQ := Lib.hid hapq
        have hszq : w1.heap.size ≤ wq.heap.size := hbq.size
        have HON := Lib.hid (step_ones 4 ((g + j : Nat) : Int) p)
        rw [← hwq]
        clear hwq hosq howq hbq hapq hc hc1
        go_wp2_with (at_builtin; first
          | (refine wpList_appendSA rfl (.tmp 59) (.tmp 65) 25 rfl w1.heap.size 4 32 (.agg #[.int .i64 0, .int .i64 0, .int .i64 0, .slice none 0 0]) 48 Try.underlying25 info_step rfl (by decide) (.slice pa' N1 ca') N1 (rowsS (pastS cPast g xs ++ decL g ps kw)) rfl HOSQ.out #[.int .i64 4, .int .i64 ((g + j : Nat) : Int), .int .i64 p, .slice none 0 0] rfl rfl HON.out (by unfold maxLen; omega) (by omega) hszq ?_; intro g6 c6 w6 hown6 hf6; have HO6 := Lib.hid hown6; have HF6 := Lib.hid hf6; have hw6 := Lib.hid (hf6.own HOWQ.out HAPQ.out); have hsz6 : w1.heap.size ≤ w6.heap.size := Nat.le_trans hszq hf6.size; clear hown6 hf6)
          | (refine wpList_append1A rfl (.tmp 67) (.tmp 69) 22 rfl w1.heap.size 3 (.int .i64 0) 8 Try.underlying22 info_int rfl (.slice pw kw cw) kw (ints ((ps.drop (j + 1)).reverse)) rfl hw6.out (.int .i64 p) rfl rfl (by unfold maxLen; omega) (by omega) hsz6 ?_; intro g7 c7 w7 hown7 hf7; have HO7 := Lib.hid hown7; have HF7 := Lib.hid hf7; clear hown7 hf7)
          | fail)
        have hst7 := HF7.out.own HO6.out (fun k hk hm => row_row HO6.out hw6.out (by decide) k hk hm)
        have hbel7 : Below w1.heap.size w1 w7 := (HBQ.out.trans (HF6.out.below (fun k hk => (own_lt HOSQ.out k hk).2) hszq)).trans (HF7.out.below (fun k hk => (own_lt hw6.out k hk).2) hsz6)
        have HST7 := Lib.hid hst7
        have HBL7 := Lib.hid hbel7
        clear hst7 hbel7
        go_roundg j
        case measure => omega
        case rel =>
          refine ⟨j, kw + 1, N1 + 1, some ⟨g6, 0, none⟩, some ⟨g7, 0, none⟩, c6, c7, rfl, by omega, by rw [HN1.out]; omega, rfl, rfl, rfl, ?_, ?_, HBL7.out⟩
          · rw [HLS.out, ← List.append_assoc, rowsS_snoc, HP.out]
            exact HST7.out
          · rw [HRS.out, HP.out]
            unfold ints
            rw [List.map_append]
            exact HO7.out
      | zero =>
        have ej : (((0 : Nat) : Int) - 1) = (-1 : Int) := by omega
        rw [ej]
        have hkn : kw = n := by omega
        subst hkn
        have HOW0 : Hid (wr.ownsRow w1.heap.size 3 1 (.slice pw kw cw) kw (ints ps.reverse)) := Lib.hid (by have h := HOW.out; rw [List.drop_zero] at h; exact h)
        have HSO := Lib.hid (fhsorted_any H4.out (pastS cPast g xs ++ decL g ps kw) ps.reverse w1.heap.size pa' N1 ca' (.slice pw kw cw) wr HOS.out (by
          rw [HN1.out, List.length_append]
          have e1 : (pastS cPast g xs).length = g + kw + g := by unfold pastS; rw [List.length_append, List.length_map, List.length_append, List.length_replicate, List.length_replicate, HL.out]
          have e2 : ∀ k, (decL g ps k).length = k := fun k => by
            induction k with
            | zero => rfl
            | succ k ih => unfold decL; rw [List.length_append, ih]; rfl
          rw [e1, e2]) hgood.out (fun w' hf => Sl.of_owns (hf.own HOW0.out (fun k hk hm => row_row HOW0.out HOS.out (by decide) k hk hm))) (by rw [List.length_reverse, HPSL.out]; omega) (by omega) hsz)
        clear hbel ej
        go_wp2_with fail
        refine HSO.out.mono ?_
        rintro e w3 ⟨rfl, hb3⟩
        have HB3 := Lib.hid hb3
        clear hb3
        go_wp2_with fail
        go_ret
        exact ⟨rfl, HB.out.trans HB3.out⟩
end Go.Proofs.Ytmhackiiiehlmaa
