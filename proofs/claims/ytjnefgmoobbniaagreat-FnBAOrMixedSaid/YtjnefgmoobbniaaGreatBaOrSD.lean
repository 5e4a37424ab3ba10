/- Walk of the bitwise or of a sparse array and a dense one (printed by gen_ba_orsd.py). -/
import Derived.Test.YtjnefgmoobbniaaGreatBaOr1
namespace Go.Proofs.YtjnefgmoobbniaaGreat
set_option linter.unusedVariables false
open Go.RowKit Bam

def orw (ps : Ps) (W : List Nat) (t : Nat) : Nat := Bam.look ps t ||| W.getD t 0
def ows (ps : Ps) (W : List Nat) (C j : Nat) : List Nat := wordsOf C fun t => if t < j then orw ps W t else 0
def owt (ps : Ps) (W : List Nat) (C m b : Nat) : List Nat := wordsOf C fun t => if t < m then orw ps W t else Bam.look (ps.take b) t
theorem look_zero {ps : Ps} {t : Nat} (h : ∀ b, b < ps.length → (ps.getD b (0, 0)).1 ≠ t) : Bam.look ps t = 0 := by
  refine look_none fun q hq => ?_
  obtain ⟨b, hb, e⟩ := List.getElem_of_mem hq
  have h1 := h b hb
  rw [List.getD_eq_getElem?_getD, List.getElem?_eq_getElem hb] at h1
  simp only [Option.getD_some] at h1
  rw [e] at h1
  exact h1
theorem look_zero_take {ps : Ps} {i t : Nat} (h : ∀ b, b < i → b < ps.length → (ps.getD b (0, 0)).1 ≠ t) : Bam.look (ps.take i) t = 0 := by
  refine look_zero fun b hb => ?_
  rw [List.length_take] at hb
  rw [List.getD_eq_getElem?_getD, List.getElem?_take, if_pos (by omega), ← List.getD_eq_getElem?_getD]
  exact h b (by omega) (by omega)
theorem getD_out {W : List Nat} {t : Nat} (h : W.length ≤ t) : W.getD t 0 = 0 := by rw [List.getD_eq_getElem?_getD, List.getElem?_eq_none h]; rfl
theorem wordsOf_ext {n : Nat} {f g : Nat → Nat} (h : ∀ t, t < n → f t = g t) : wordsOf n f = wordsOf n g := by
  unfold wordsOf
  exact List.map_congr_left fun t ht => h t (List.mem_range.1 ht)
theorem ows_len (ps : Ps) (W : List Nat) (C j : Nat) : (ows ps W C j).length = C := wordsOf_len _ _
theorem owt_len (ps : Ps) (W : List Nat) (C m b : Nat) : (owt ps W C m b).length = C := wordsOf_len _ _
theorem ows_zero (ps : Ps) (W : List Nat) (C : Nat) : ows ps W C 0 = List.replicate C 0 := wordsOf_zero C _
theorem ows_step (ps : Ps) (W : List Nat) (C j : Nat) : (ows ps W C j).set j (orw ps W j) = ows ps W C (j + 1) := wordsOf_step C (orw ps W) j
theorem ows_all {ps : Ps} {W : List Nat} {C m : Nat} (hm : m = W.length) (h : ∀ b, b < ps.length → (ps.getD b (0, 0)).1 < m) : ows ps W C m = wordsOf C (orw ps W) := by
  refine wordsOf_ext fun t _ => ?_
  by_cases ht : t < m
  · rw [if_pos ht]
  · rw [if_neg ht]
    unfold orw
    rw [look_zero fun b hb => by have := h b hb; omega, getD_out (by omega)]
    rfl
theorem wordsOf_at {n t : Nat} {f : Nat → Nat} (h : t < n) : (wordsOf n f)[t]? = some (f t) := by
  unfold wordsOf
  rw [List.getElem?_map, List.getElem?_range h]; rfl
theorem ows_copy {ps : Ps} {W : List Nat} {C m j : Nat} (hm : m = W.length) (hj : j ≤ m) (hmC : m ≤ C) (h : ∀ b, b < ps.length → (ps.getD b (0, 0)).1 < j) :
    (ows ps W C j).take j ++ (W.drop j ++ (ows ps W C j).drop (j + (W.drop j).length)) = wordsOf C (orw ps W) := by
  have hl := ows_len ps W C j
  have hdl : (W.drop j).length = m - j := by rw [List.length_drop, hm]
  apply List.ext_getElem?
  intro t
  by_cases htC : t < C
  · rw [wordsOf_at htC]
    by_cases ht : t < j
    · rw [List.getElem?_append_left (by rw [List.length_take]; omega), List.getElem?_take, if_pos ht]
      unfold ows
      rw [wordsOf_at htC, if_pos ht]
    · rw [List.getElem?_append_right (by rw [List.length_take]; omega), List.length_take, hl, Nat.min_eq_left (by omega)]
      have hz : Bam.look ps t = 0 := look_zero fun b hb => by have := h b hb; omega
      by_cases ht2 : t < m
      · rw [List.getElem?_append_left (by omega), List.getElem?_drop, show j + (t - j) = t by omega, List.getElem?_eq_getElem (by omega)]
        unfold orw
        rw [hz, List.getD_eq_getElem?_getD, List.getElem?_eq_getElem (by omega)]
        simp
      · rw [List.getElem?_append_right (by omega), hdl, List.getElem?_drop, show j + (m - j) + (t - j - (m - j)) = t by omega]
        unfold ows orw
        rw [wordsOf_at htC, if_neg ht, hz, getD_out (by omega)]
        rfl
  · rw [List.getElem?_eq_none (by rw [List.length_append, List.length_append, List.length_take, List.length_drop (l := ows ps W C j), hl, hdl]; omega), List.getElem?_eq_none (by rw [wordsOf_len]; omega)]
theorem owt_zero {ps : Ps} {W : List Nat} {C m i : Nat} (h : ∀ b, b < i → b < ps.length → (ps.getD b (0, 0)).1 < m) : owt ps W C m i = ows ps W C m := by
  refine wordsOf_ext fun t _ => ?_
  show (if t < m then _ else _) = (if t < m then _ else _)
  by_cases ht : t < m
  · rw [if_pos ht, if_pos ht]
  · rw [if_neg ht, if_neg ht]
    exact look_zero_take fun b h1 h2 => by have := h b h1 h2; omega
theorem owt_step {ps : Ps} (ho : Ok ps) (W : List Nat) (C m : Nat) {b X B : Nat} (hb : b < ps.length) (e : ps.getD b (0, 0) = (X, B)) (hX : m ≤ X) : (owt ps W C m b).set X B = owt ps W C m (b + 1) := by
  unfold owt
  rw [wordsOf_set]
  refine wordsOf_ext fun t _ => ?_
  show (if t = X then B else _) = _
  rw [look_take_succ ho hb e t]
  by_cases ht : t = X
  · rw [if_pos ht, if_pos ht, if_neg (by omega)]
  · rw [if_neg ht, if_neg ht]
theorem owt_end {ps : Ps} {W : List Nat} {C m n : Nat} (hm : m = W.length) (hn : n = ps.length) : owt ps W C m n = wordsOf C (orw ps W) := by
  refine wordsOf_ext fun t _ => ?_
  rw [hn, List.take_length]
  by_cases ht : t < m
  · rw [if_pos ht]
  · rw [if_neg ht]
    unfold orw
    rw [getD_out (by omega), Nat.or_zero]
theorem orw_hit {ps : Ps} (ho : Ok ps) (W : List Nat) {b X B : Nat} (hb : b < ps.length) (e : ps.getD b (0, 0) = (X, B)) : orw ps W X = B ||| W.getD X 0 := by
  unfold orw
  rw [look_mem ho (i := X) (w := B) (by rw [← e, List.getD_eq_getElem?_getD, List.getElem?_eq_getElem hb]; exact List.getElem_mem _)]
theorem orw_miss {ps : Ps} (W : List Nat) {t : Nat} (h : ∀ b, b < ps.length → (ps.getD b (0, 0)).1 ≠ t) : orw ps W t = W.getD t 0 := by
  unfold orw
  rw [look_zero h, Nat.zero_or]
theorem key_cap {ps : Ps} (ho : Ok ps) {b : Nat} (hb : b < ps.length) : (ps.getD b (0, 0)).1 < capP ps := by
  have hl : ps.getLast? = some (ps.getD (ps.length - 1) (0, 0)) := by
    rw [List.getLast?_eq_getElem?, List.getD_eq_getElem?_getD, List.getElem?_eq_getElem (by omega)]; rfl
  unfold capP
  rw [hl]
  show _ < ((ps.getD (ps.length - 1) (0, 0)).1 + 1) * 64
  rcases Nat.eq_or_lt_of_le (show b ≤ ps.length - 1 by omega) with e | e
  · rw [← e]; omega
  · have := keys_lt ho e (by omega); omega

def OrRel (ps : Ps) (W : List Nat) (n m C r : Nat) (F : List Nat) (w : World) (k : Nat) (s7 s8 : Value) (wr : World) : Prop :=
  ∃ i j : Nat, s7 = .int .i64 (i : Int) ∧ s8 = .int .i64 (j : Int) ∧ i ≤ n ∧ j + k = m ∧ (∀ b, b < i → b < n → (ps.getD b (0, 0)).1 < j) ∧ (∀ b, i ≤ b → b < n → j ≤ (ps.getD b (0, 0)).1) ∧ DeAt wr r F (ows ps W C j) 0 0 false ∧ Below w.heap.size w wr
def OrIn (ps : Ps) (W : List Nat) (n m C r i : Nat) (F : List Nat) (w : World) (k : Nat) (s89 : Value) (wr : World) : Prop :=
  ∃ b : Nat, s89 = .int .i64 (b : Int) ∧ i + b + k = n ∧ DeAt wr r F (owt ps W C m (i + b)) 0 0 false ∧ Below w.heap.size w wr

set_option maxRecDepth 100000 in
theorem orsd_none (p q : Nat) (F G : List Nat) (ps : Ps) (W : List Nat) (w : World) (h : SpAt w p F ps) (k : DeW w q G W) (hn : ps.length ≤ 1000) (hm : W.length ≤ 9000) (h0 : 0 < W.length) (hz : dnums W = []) :
    Calls Tryz.prog 81 #[.pointer (some ⟨p, 0, none⟩), .pointer (some ⟨q, 0, none⟩)] w fun e w' =>
      ∃ (r : Nat) (H : List Nat), e = .returned (.iface 82 (.pointer (some ⟨r, 0, none⟩))) ∧ SpAt w' r H ps ∧ (∀ x ∈ H, w.heap.size ≤ x) ∧ Below w.heap.size w w' := by
  have hcap := capacity_de q G W _ _ _ w k (by omega)
  obtain ⟨a, c, -, -, -, c3, -⟩ := DeAt.cells k
  rw [(lo_nil hz).2.2] at c3
  obtain ⟨C, hC⟩ : ∃ C, 64 * W.length = C := ⟨_, rfl⟩
  rw [hC] at hcap
  have t0 : ((C : Int) == 0) = false := by rw [beq_eq_false_iff_ne]; omega
  have hcp := copysp_any p F ps w h hn
  have HCP := Lib.hid hcp
  have HCAP := Lib.hid hcap
  clear h k hn hm h0 hz hcap hcp hC
  go_enter Tryz.func81, Tryz.ntmps81
  go_wp2_with fail
  refine HCAP.out.mono ?_
  rintro e1 w' ⟨rfl, rfl⟩
  go_wp2_with fail
  refine HCP.out.mono ?_
  rintro e1 w' ⟨r, H, rfl, hs, hf, hb⟩
  have HS := Lib.hid hs
  have HF := Lib.hid hf
  have HB := Lib.hid hb
  clear hs hf hb
  go_wp2_with fail
  go_ret
  exact ⟨r, H, rfl, HS.out, HF.out, HB.out⟩
set_option maxRecDepth 100000 in
theorem orsd_empty (p q : Nat) (F G : List Nat) (W : List Nat) (w : World) (h : SpAt w p F []) (k : DeW w q G W) (hm : W.length ≤ 9000) (h0 : 0 < W.length) (hz : dnums W ≠ []) :
    Calls Tryz.prog 81 #[.pointer (some ⟨p, 0, none⟩), .pointer (some ⟨q, 0, none⟩)] w fun e w' =>
      ∃ (r : Nat) (H : List Nat), e = .returned (.iface 80 (.pointer (some ⟨r, 0, none⟩))) ∧ DeW w' r H W ∧ (∀ x ∈ H, w.heap.size ≤ x) ∧ Below w.heap.size w w' := by
  have hcap := capacity_de q G W _ _ _ w k (by omega)
  obtain ⟨a, c, -, -, -, c3, -⟩ := DeAt.cells k
  rw [show anyW W = true from decide_eq_true hz] at c3
  obtain ⟨C, hC⟩ : ∃ C, 64 * W.length = C := ⟨_, rfl⟩
  rw [hC] at hcap
  have t0 : ((C : Int) == 0) = false := by rw [beq_eq_false_iff_ne]; omega
  have hcs := capacity_any p F [] w h (by simp) (fun q hq => by simp at hq)
  rw [show capP [] = 0 from rfl] at hcs
  have hcp : ∀ nq, _ := fun nq => copyde_any q G W (w.drewN nq) (DeAt.drewN k nq) hm
  have HCP := Lib.hid hcp
  have HCAP := Lib.hid hcap
  have HCS := Lib.hid hcs
  clear h k hm h0 hz hcap hcp hcs hC
  go_enter Tryz.func81, Tryz.ntmps81
  go_wp2_with fail
  refine HCAP.out.mono ?_
  rintro e1 w' ⟨rfl, rfl⟩
  go_wp2_with fail
  refine HCS.out.mono ?_
  rintro e1 w' ⟨rfl, nq, rfl⟩
  go_wp2_with fail
  refine (HCP.out nq).mono ?_
  rintro e1 w' ⟨r, H, rfl, hs, hf, hb⟩
  have HS := Lib.hid hs
  have HF : Hid (∀ x ∈ H, w.heap.size ≤ x) := Lib.hid hf
  have HB := Lib.hid ((below_drewN (Below.refl w.heap.size w) nq).trans hb)
  clear hs hf hb
  go_wp2_with fail
  go_ret
  exact ⟨r, H, rfl, HS.out, HF.out, HB.out⟩

set_option maxRecDepth 100000 in
set_option maxHeartbeats 8000000 in
theorem orsd_big (p q : Nat) (F G : List Nat) (ps : Ps) (W : List Nat) (C : Nat) (w : World) (h : SpAt w p F ps) (k : DeW w q G W) (ho1 : Ok ps) (ho2 : W64 W) (hn : ps.length ≤ 1000) (hs0 : 0 < ps.length) (hz : dnums W ≠ []) (hC : max (capP ps) (64 * W.length) = C) (hC9 : C ≤ 9000) :
    Calls Tryz.prog 81 #[.pointer (some ⟨p, 0, none⟩), .pointer (some ⟨q, 0, none⟩)] w fun e w' =>
      ∃ (r : Nat) (H : List Nat), e = .returned (.iface 80 (.pointer (some ⟨r, 0, none⟩))) ∧ DeW w' r H (wordsOf C (orw ps W)) ∧ (∀ x ∈ H, w.heap.size ≤ x) ∧ Below w.heap.size w w' := by
  have hkey : ∀ b, b < ps.length → (ps.getD b (0, 0)).1 < C := fun b hb => by have := key_cap ho1 hb; omega
  have hcap := capacity_de q G W _ _ _ w k (by omega)
  have hcapw : ∀ nq, _ := fun nq => capacity_de q G W _ _ _ (w.drewN nq) (DeAt.drewN k nq) (by omega)
  have hcps := capacity_any p F ps w h hn (fun x hx => by
    obtain ⟨b, hb, e⟩ := List.getElem_of_mem hx
    have := hkey b hb
    rw [List.getD_eq_getElem?_getD, List.getElem?_eq_getElem hb] at this
    simp only [Option.getD_some] at this
    rw [e] at this; omega)
  have hcps2 : ∀ nq, _ := fun nq => capacity_any p F ps (w.drewN nq) (SpAt.drewN h nq) hn (fun x hx => by
    obtain ⟨b, hb, e⟩ := List.getElem_of_mem hx
    have := hkey b hb
    rw [List.getD_eq_getElem?_getD, List.getElem?_eq_getElem hb] at this
    simp only [Option.getD_some] at this
    rw [e] at this; omega)
  have hcpos : 0 < capP ps := Nat.lt_of_le_of_lt (Nat.zero_le _) (key_cap ho1 hs0)
  have hwpos : 0 < W.length := by
    rcases Nat.eq_zero_or_pos W.length with e | e
    · exact absurd (by rw [List.eq_nil_of_length_eq_zero e]; rfl) hz
    · exact e
  obtain ⟨a, c, c0, -, -, c3, -⟩ := DeAt.cells k
  rw [show anyW W = true from decide_eq_true hz] at c3
  have hcaps : ∃ cc, w.cell? ⟨q, 0, none⟩ = some (.slice a W.length cc) ∧ W.length ≤ cc := by
    obtain ⟨a', c', h1, h2, -⟩ := (show DeAt w q G W (loW W) (hiW W) (anyW W) from k)
    have e := h1.cell 0 rfl
    rw [c0] at e
    injection e with e; injection e with e1 e2 e3
    refine ⟨c, c0, ?_⟩
    rcases h2.cases with ⟨e, e2⟩ | ⟨g, cap, e, _, hle, _⟩
    · rw [e2] at hwpos; simp at hwpos
    · injection e with _ _ e; omega
  have hcapp : ∃ a1 c1 a2 c2, PairsAt w p ps a1 c1 a2 c2 ps.length ∧ ps.length ≤ c2 := by
    obtain ⟨a1, c1, a2, c2, h0, h1, hc, hU, hW⟩ := h.cells
    refine ⟨a1, c1, a2, c2, ⟨rfl, h0, h1, fun r hr => ?_⟩, ?_⟩
    · obtain ⟨g1, g2, e1, e2, h⟩ := hc (by omega)
      exact ⟨g1, g2, e1, e2, (h r hr).1, (h r hr).2⟩
    · rcases hU.cases with ⟨e, e2⟩ | ⟨g, cap, e, _, hle, _⟩
      · have h3 := congrArg List.length e2; rw [List.length_map] at h3; have h4 : ps.length = 0 := h3; omega
      · rw [List.length_map] at e hle; simp only [Value.slice.injEq, true_and] at e; obtain ⟨_, e⟩ := e; omega
  obtain ⟨a1, c1, a2, c2, hp, hc2⟩ := hcapp
  obtain ⟨d1, hc0, hcd⟩ := hcaps
  obtain ⟨b1, e1, m', hq⟩ := DeAt.wat k
  have hw64 : W64 (wordsOf C (orw ps W)) := wordsOf_ok fun i _ => Nat.or_lt_two_pow (look_lt ho1 i) (getD_lt ho2 i)
  have HW64 := Lib.hid hw64
  have HTL := Lib.hid (show (wordsOf C (orw ps W)).length = C from wordsOf_len _ _)
  have HO1 := Lib.hid ho1
  have HO2 := Lib.hid ho2
  have HZ := Lib.hid (ows_zero ps W C)
  obtain ⟨S, hS⟩ : ∃ S, capP ps = S := ⟨_, rfl⟩
  obtain ⟨D, hD⟩ : ∃ D, 64 * W.length = D := ⟨_, rfl⟩
  rw [hS] at hcps hcps2 hcpos hC
  rw [hD] at hcap hcapw hC
  have hmC : W.length ≤ C := by omega
  have t0 : ((D : Int) == 0) = false := by rw [beq_eq_false_iff_ne]; omega
  have t1 : ((S : Int) == 0) = false := by rw [beq_eq_false_iff_ne]; omega
  obtain ⟨-, p0, p1, pc⟩ := hp
  obtain ⟨hqn, q0, qc⟩ := hq
  have hbe : b1 = a ∧ e1 = d1 := by
    rw [c0] at hc0
    rw [c0] at q0
    injection hc0 with hc0; injection hc0 with _ _ x1
    injection q0 with q0; injection q0 with y1 y2 y3
    exact ⟨y1.symm, by omega⟩
  obtain ⟨rfl, rfl⟩ := hbe
  obtain ⟨n, hN⟩ : ∃ n, ps.length = n := ⟨_, rfl⟩
  have hqn2 := hqn
  rw [← hqn] at hcd hmC hwpos
  rw [hN] at p0 p1 pc hc2 hn hkey hs0
  have HP := Lib.hid (show PairsAt w p ps a1 c1 a2 c2 n from ⟨hN.symm, p0, p1, pc⟩)
  have HQ := Lib.hid (show WordsAt w q W b1 e1 m' from ⟨hqn2, q0, qc⟩)
  have HN := Lib.hid hN
  have HM := Lib.hid hqn
  have HKEY := Lib.hid hkey
  have HCAP := Lib.hid hcap
  have HCAPW := Lib.hid hcapw
  have HCPS := Lib.hid hcps
  have HCPS2 := Lib.hid hcps2
  obtain ⟨m, hmm⟩ : ∃ m, m' = m := ⟨_, rfl⟩
  subst hmm
  have hmx : ∀ (w' : World), Nat.max S D = C := fun _ => hC
  have HMX := Lib.hid (show Nat.max S D = C from hC)
  have hCC : C = (64 * C + 63) / 64 := by omega
  have hnew : ∀ w', _ := fun w' => newde_nil (64 * C) C w' hCC (by omega)
  obtain ⟨E, hE⟩ : ∃ E, 64 * C = E := ⟨_, rfl⟩
  have hmul : IntKind.u64.wrap ((C : Int) * 64) = (E : Int) := by rw [show (C : Int) * 64 = (E : Int) by omega]; exact u64wd _ (by omega)
  have hmul2 : (C : Int) * 64 = (E : Int) := by omega
  rw [hE] at hnew
  have HNEW := Lib.hid hnew
  have HMU := Lib.hid hmul
  have HMU2 := Lib.hid hmul2
  have HBS := Lib.hid (Below.refl w.heap.size w)
  clear h k ho1 ho2 hz hC hw64 hkey hcap hcapw hcps hcps2 hcpos hS hD p0 p1 pc qc q0 hqn hqn2 hN c0 hc0 hmx hCC hnew hE hmul hmul2
  go_enter Tryz.func81, Tryz.ntmps81
  go_wp2_with fail
  refine HCAP.out.mono ?_
  rintro e2 w' ⟨rfl, rfl⟩
  go_wp2_with fail
  refine HCPS.out.mono ?_
  rintro e2 w' ⟨rfl, nq, rfl⟩
  go_wp2_with fail
  refine (HCPS2.out nq).mono ?_
  rintro e2 w' ⟨rfl, nq2, rfl⟩
  rw [World.drewN_drewN]
  go_wp2_with fail
  refine (HCAPW.out _).mono ?_
  rintro e2 w' ⟨rfl, rfl⟩
  obtain ⟨w0, hw0⟩ : ∃ w0, w.drewN (nq + nq2) = w0 := ⟨_, rfl⟩
  have hb0 : Below w.heap.size w w0 := hw0 ▸ below_drewN HBS.out _
  have hsw : w.heap.size = w0.heap.size := hw0 ▸ rfl
  rw [hw0]
  have HB0 := Lib.hid hb0
  have HSW := Lib.hid hsw
  clear hw0 hb0 hsw t0 t1 c3
  go_wp2_with fail
  have hb1 : Below w.heap.size w (w0.alloc (.cells #[.int .u64 (S : Int), .int .u64 (D : Int)] 34)) := HB0.out.alloc HB0.out.size _
  have hx0 : (w0.alloc (.cells #[.int .u64 (S : Int), .int .u64 (D : Int)] 34)).cell? ⟨w0.heap.size, 0, none⟩ = some (.int .u64 (S : Int)) := (Blk.new w0 _ _).cell 0 rfl
  have hx1 : (w0.alloc (.cells #[.int .u64 (S : Int), .int .u64 (D : Int)] 34)).cell? ⟨w0.heap.size, 1, none⟩ = some (.int .u64 (D : Int)) := (Blk.new w0 _ _).cell 1 rfl
  obtain ⟨w1, hw1⟩ : ∃ w1, w0.alloc (.cells #[.int .u64 (S : Int), .int .u64 (D : Int)] 34) = w1 := ⟨_, rfl⟩
  rw [hw1] at hb1 hx0 hx1 ⊢
  have hmx := maxu_any w0.heap.size S D w1 hx0 hx1
  rw [HMX.out] at hmx
  refine hmx.mono ?_
  have HB1 := Lib.hid hb1
  have hs1 := hb1.size
  clear hb1 hx0 hx1 hw1 hmx
  rintro e2 w' ⟨rfl, rfl⟩
  have hnew := HNEW.out w1
  have HNEW1 := Lib.hid hnew
  have hmul := HMU.out
  clear hnew
  go_wp2_with fail
  try rw [HMU2.out]
  refine HNEW1.out.mono ?_
  rintro e2 w2 ⟨r, H, rfl, hr, hfr, hb2⟩
  have hb02 := HB1.out.trans (hb2.mono hs1)
  have hz : DeAt w2 r H (ows ps W C 0) 0 0 false := by
    rw [HZ.out]
    unfold DeW at hr
    obtain ⟨z1, z2, z3⟩ := lo_nil (dnums_zero C)
    rw [z1, z2, z3] at hr
    exact hr
  have hfr' : ∀ x ∈ H, w.heap.size ≤ x := fun x hx => Nat.le_trans hs1 (hfr x hx)
  have HZ2 := Lib.hid hz
  have HB2 := Lib.hid hb02
  have HFR := Lib.hid hfr'
  clear hr hfr hb2 hb02 hz hfr' hmul
  go_wp2_with fail
  go_loopg [7, 8] m' (fun k s7 s8 wr => OrRel ps W n m' C r H w k s7 s8 wr)
  case atStart => exact ⟨0, 0, rfl, rfl, Nat.zero_le _, by omega, fun b h _ => absurd h (Nat.not_lt_zero _), fun b _ _ => Nat.zero_le _, HZ2.out, HB2.out⟩
  case round =>
    obtain ⟨i, j, rfl, rfl, hi, hjk, hlow, hhigh, hde, hbel⟩ := hrel
    have HB := Lib.hid hbel
    have HDE := Lib.hid hde
    have HLOW := Lib.hid hlow
    have HHIGH := Lib.hid hhigh
    have hsr := hbel.size
    obtain ⟨-, p0, p1, pc⟩ := HP.out
    obtain ⟨-, q0, qc⟩ := HQ.out
    have HPC := Lib.hid pc
    have HQC := Lib.hid qc
    replace p0 := cell_below hbel (Nat.le_refl _) p0
    replace p1 := cell_below hbel (Nat.le_refl _) p1
    replace q0 := cell_below hbel (Nat.le_refl _) q0
    clear pc qc hlow hhigh hde
    by_cases hin : i = n
    · have t0 : ((i : Int) == (n : Int)) = true := by rw [hin]; exact beq_self_eq_true _
      by_cases hjm : j = m'
      · have t1 : ((j : Int) == (m' : Int)) = true := by rw [hjm]; exact beq_self_eq_true _
        have hall := ows_all (ps := ps) (W := W) (C := C) (m := m') HM.out (fun b hb => by
          have := HLOW.out b (by rw [hin, ← HN.out]; exact hb) (by rw [← HN.out]; exact hb)
          omega)
        have hd := HDE.out
        rw [hjm, hall] at hd
        have HD := Lib.hid hd
        clear hall hd hbel hin hjm
        have hsh := sethigh_any r H _ 0 0 false wr HD.out HW64.out (by rw [HTL.out]; omega)
        have HSH := Lib.hid hsh
        clear hsh
        go_wp2_with fail
        refine HSH.out.mono ?_
        rintro e2 w5 ⟨rfl, hd2, hf2⟩
        have hsl := setlow_any r H _ _ _ _ w5 hd2 HW64.out (by rw [HTL.out]; omega)
        have hb5 : Below w.heap.size w w5 := HB.out.trans (hf2.below (B := w.heap.size) HFR.out hsr)
        have HSL := Lib.hid hsl
        have HB5 := Lib.hid hb5
        clear hd2 hf2 hsl hb5
        go_wp2_with fail
        refine HSL.out.mono ?_
        rintro e2 w6 ⟨rfl, hd3, hf3⟩
        have hb6 : Below w.heap.size w w6 := HB5.out.trans (hf3.below (B := w.heap.size) HFR.out HB5.out.size)
        have hfin : DeW w6 r H (wordsOf C (orw ps W)) := by
          unfold DeW
          by_cases ha : anyW (wordsOf C (orw ps W)) = true
          · rw [if_pos ha] at hd3; exact hd3
          · rw [if_neg ha] at hd3
            have e : dnums (wordsOf C (orw ps W)) = [] := by unfold anyW at ha; simpa using ha
            rw [(lo_nil e).2.1]; exact hd3
        have HFIN := Lib.hid hfin
        have HB6 := Lib.hid hb6
        clear hd3 hf3 hb6 hfin
        go_wp2_with fail
        go_ret
        exact ⟨r, H, rfl, HFIN.out, HFR.out, HB6.out⟩
      · have t1 : ((j : Int) == (m' : Int)) = false := by rw [beq_eq_false_iff_ne]; omega
        have hjl : j < m' := by omega
        obtain ⟨a, c, h1, h2, hF⟩ := HDE.out
        rw [ows_len] at h1 h2 hF
        obtain ⟨g3, rfl, -⟩ := HQC.out j hjl
        have hga : ∃ g, a = some ⟨g, 0, none⟩ ∧ C ≤ c := by
          rcases h2.cases with ⟨e, e2⟩ | ⟨g, cap, e, _, hle, _⟩
          · have := congrArg List.length e2; rw [ows_len] at this; simp at this; omega
          · rw [ows_len] at hle; injection e with e e2 e3; exact ⟨g, e, by omega⟩
        obtain ⟨g, rfl, hCc⟩ := hga
        have d0 : wr.cell? ⟨r, 0, none⟩ = some (.slice (some ⟨g, 0, none⟩) C c) := h1.cell 0 rfl
        have hown := h2.to (n := C) (ows_len ps W C j).symm
        have hcp := ows_copy (ps := ps) (W := W) (C := C) (m := m') (j := j) HM.out (by omega) hmC (fun b hb => HLOW.out b (by rw [hin, ← HN.out]; exact hb) (by rw [← HN.out]; exact hb))
        have hul : (u64s (W.drop j)).length = m' - j := by rw [u64s_len, List.length_drop, ← HM.out]
        have hcells : 0 < (u64s (W.drop j)).length → ∃ b off, (some ⟨g3, j, none⟩ : Option Addr) = some ⟨b, off, none⟩ ∧ ∀ t u, (u64s (W.drop j))[t]? = some u → wr.drew.cell? ⟨b, off + t, none⟩ = some u := fun _ => ⟨g3, j, rfl, fun t u hu => by
          have ht : t < (u64s (W.drop j)).length := (List.getElem?_eq_some_iff.1 hu).1
          rw [hul] at ht
          rw [u64s_at _ _ (by rw [u64s_len] at hul; omega)] at hu
          obtain ⟨g', e, v⟩ := HQC.out (j + t) (by omega)
          injection e with e; injection e with e
          subst e
          have v2 := cell_below HB.out (Nat.le_refl _) v
          have e3 : (W.drop j).getD t 0 = W.getD (j + t) 0 := by rw [List.getD_eq_getElem?_getD, List.getElem?_drop, List.getD_eq_getElem?_getD]
          rw [e3] at hu
          rw [← Option.some.inj hu]; exact v2⟩
        have HOWN := Lib.hid hown
        have HCEL := Lib.hid hcells
        have HUL := Lib.hid hul
        have HONE := Lib.hid (u64s_one (W.drop j))
        have HH1 := Lib.hid h1
        have HH2 := Lib.hid h2
        have HHF := Lib.hid hF
        have HCPY := Lib.hid hcp
        have j1 : (j : Int) ≤ (m' : Int) := by omega
        have j2 : (0 : Int) ≤ (j : Int) := by omega
        have j3 : j ≤ m' := by omega
        have j4 : (j : Int) ≤ (C : Int) := by omega
        have j5 : j ≤ C := by omega
        have j6 : (m' : Int) ≤ (e1 : Int) := by omega
        have j7 : (C : Int) ≤ (c : Int) := by omega
        have j8 : (j : Int) ≤ (e1 : Int) := by omega
        have j9 : (j : Int) ≤ (c : Int) := by omega
        have j10 : j < C := by omega
        have j11 : j ≤ c := by omega
        have j12 : j ≤ e1 := by omega
        have j13 : ¬ c = j := by omega
        have j14 : ¬ e1 = j := by omega
        clear h1 h2 hF hown hcells hul hcp hbel hin hjm
        go_wp2_with fail
        go_region_law ((refine step_copyTo (by rfl) (.tmp 67) (.tmp 73) 88 88 (by rfl) 0 74 (.int .u64 0) 8 Tryz.underlying88 info_blk g C c (u64s (ows ps W C j)) (row_drew HOWN.out) j (u64s (W.drop j)) HONE.out (by rw [HUL.out]; omega) (some ⟨g, j, none⟩) (some ⟨g3, j, none⟩) (C - j) (m' - j) (c - j) (e1 - j) (by go_simp) (by go_simp) rfl HUL.out.symm (fun _ => rfl) HCEL.out ?_; intro w4 own4 hg4 hb4))
        all_goals
          have hown4 : w4.ownsRow 0 74 1 (.slice (some ⟨g, 0, none⟩) C c) C (u64s (wordsOf C (orw ps W))) := by
            have e : (u64s (ows ps W C j)).take j ++ (u64s (W.drop j) ++ (u64s (ows ps W C j)).drop (j + (u64s (W.drop j)).length)) = u64s (wordsOf C (orw ps W)) := by
              rw [← HCPY.out, u64s_append, u64s_append, u64s_len]
              simp [u64s, List.map_take, List.map_drop]
            rw [e] at own4
            exact own4
          have hf4 : Fr [g] [g] wr w4 := (Fr.refl [g] wr).drew.trans (Fr.of_grown_same hg4)
          have hd : DeAt w4 r H (wordsOf C (orw ps W)) 0 0 false := DeAt.turned HH1.out HH2.out HHF.out HTL.out hown4 hf4
          have hgw : w.heap.size ≤ g := HFR.out g (by rw [HHF.out, obl_some]; simp)
          have hbw : Below w.heap.size w w4 := HB.out.trans (hf4.below (B := w.heap.size) (fun x hx => by rw [List.mem_singleton.1 hx]; exact hgw) hsr)
          obtain ⟨wr, hwr⟩ : ∃ wr, w4 = wr := ⟨_, rfl⟩
          rw [hwr] at hd hbw ⊢
          have HD := Lib.hid hd
          have HB := Lib.hid hbw
          have hsr := hbw.size
          clear hown4 hf4 hd hbw hwr own4 hg4 hb4 hgw p0 p1 q0 d0
          have hsh := sethigh_any r H _ 0 0 false wr HD.out HW64.out (by rw [HTL.out]; omega)
          have HSH := Lib.hid hsh
          clear hsh
          go_wp2_with fail
          refine HSH.out.mono ?_
          rintro e2 w5 ⟨rfl, hd2, hf2⟩
          have hsl := setlow_any r H _ _ _ _ w5 hd2 HW64.out (by rw [HTL.out]; omega)
          have hb5 : Below w.heap.size w w5 := HB.out.trans (hf2.below (B := w.heap.size) HFR.out hsr)
          have HSL := Lib.hid hsl
          have HB5 := Lib.hid hb5
          clear hd2 hf2 hsl hb5
          go_wp2_with fail
          refine HSL.out.mono ?_
          rintro e2 w6 ⟨rfl, hd3, hf3⟩
          have hb6 : Below w.heap.size w w6 := HB5.out.trans (hf3.below (B := w.heap.size) HFR.out HB5.out.size)
          have hfin : DeW w6 r H (wordsOf C (orw ps W)) := by
            unfold DeW
            by_cases ha : anyW (wordsOf C (orw ps W)) = true
            · rw [if_pos ha] at hd3; exact hd3
            · rw [if_neg ha] at hd3
              have e : dnums (wordsOf C (orw ps W)) = [] := by unfold anyW at ha; simpa using ha
              rw [(lo_nil e).2.1]; exact hd3
          have HFIN := Lib.hid hfin
          have HB6 := Lib.hid hb6
          clear hd3 hf3 hb6 hfin
          go_wp2_with fail
          go_ret
          exact ⟨r, H, rfl, HFIN.out, HFR.out, HB6.out⟩
    · have t0 : ((i : Int) == (n : Int)) = false := by rw [beq_eq_false_iff_ne]; omega
      have hil : i < n := by omega
      by_cases hjm : j = m'
      · have t1 : ((j : Int) == (m' : Int)) = true := by rw [hjm]; exact beq_self_eq_true _
        have hin0 : OrIn ps W n m' C r i H w (n - i) (.int .i64 ((0 : Nat) : Int)) wr := by
          refine ⟨0, rfl, by omega, ?_, HB.out⟩
          rw [Nat.add_zero, owt_zero (fun b h1 h2 => by have := HLOW.out b h1 (by rw [← HN.out]; exact h2); omega), ← hjm]
          exact HDE.out
        obtain ⟨g1, g2, rfl, rfl, -, -⟩ := HPC.out i hil
        have HIN0 := Lib.hid hin0
        have j1 : (i : Int) ≤ (n : Int) := by omega
        have j2 : (0 : Int) ≤ (i : Int) := by omega
        have j3 : i ≤ n := by omega
        have j4 : (n : Int) ≤ (c2 : Int) := by omega
        have j5 : (i : Int) ≤ (c2 : Int) := by omega
        have j6 : i ≤ c2 := by omega
        obtain ⟨L, hL⟩ : ∃ L, n - i = L := ⟨_, rfl⟩
        rw [hL] at hin0 HIN0
        have hLi : i + L = n := by omega
        have HLI := Lib.hid hLi
        have j7 : (n : Int) - (i : Int) = (L : Int) := by omega
        have HJM := Lib.hid hjm
        obtain ⟨wo, hwo⟩ : ∃ wo, wo = wr := ⟨_, rfl⟩
        clear hin0 hin hbel hjm hwo hLi
        go_wp2_with fail
        go_loopg [89] L (fun k s89 wr => OrIn ps W n m' C r i H w k s89 wr)
        case atStart => exact HIN0.out
        case round =>
          obtain ⟨b, rfl, hbk, hde, hbel⟩ := hrel
          have hLi := HLI.out
          have HB := Lib.hid hbel
          have hsr := hbel.size
          have HDI := Lib.hid hde
          obtain ⟨-, p0, p1, -⟩ := HP.out
          replace p0 := cell_below hbel (Nat.le_refl _) p0
          replace p1 := cell_below hbel (Nat.le_refl _) p1
          clear hde
          by_cases hb : b < L
          · have t2 : decide (b < L) = true := by rw [decide_eq_true_iff]; exact hb
            obtain ⟨g1', g2', e1', e2', u1, u2⟩ := HPC.out (i + b) (by omega)
            injection e1' with e1'; injection e1' with e1'
            injection e2' with e2'; injection e2' with e2'
            subst e1' e2'
            replace u1 := cell_below hbel (Nat.le_refl _) u1
            replace u2 := cell_below hbel (Nat.le_refl _) u2
            have hge := HHIGH.out (i + b) (by omega) (by omega)
            have hkx := HKEY.out (i + b) (by omega)
            obtain ⟨X, hX⟩ : ∃ X, (ps.getD (i + b) (0, 0)).1 = X := ⟨_, rfl⟩
            obtain ⟨B, hBe⟩ : ∃ B, (ps.getD (i + b) (0, 0)).2 = B := ⟨_, rfl⟩
            rw [hX] at hge hkx u2
            rw [hBe] at u1
            have hstep := owt_step HO1.out W C m' (b := i + b) (X := X) (B := B) (by rw [HN.out]; omega) (by rw [← hX, ← hBe]) (by rw [← HJM.out]; exact hge)
            obtain ⟨g, c, d0, hfz, ⟨X0, hx0⟩, hgw, hst⟩ := DeAt.store HDI.out (owt_len ps W C m' (i + b)) hkx HFR.out
            have hst := hst B
            rw [hstep] at hst
            have HST := Lib.hid hst
            obtain ⟨s, hs⟩ : ∃ s, i + b = s := ⟨_, rfl⟩
            have HSS := Lib.hid hs
            have v1 : wr.cell? ⟨g1, s, none⟩ = some (.int .u64 (B : Int)) := by rw [← hs]; exact u1
            have i1 : (b : Int) < (L : Int) := by omega
            have i2 : (0 : Int) ≤ (b : Int) := by omega
            have i3 : (b : Int) + (i : Int) = (s : Int) := by omega
            have i4h := Lib.hid (show IntKind.i64.wrap (s : Int) = (s : Int) from IntWalk.i64_in _ (by omega))
            have i5 : (s : Int) < (n : Int) := by omega
            have i6 : (0 : Int) ≤ (s : Int) := by omega
            have i7 : s < n := by omega
            have i8 : (X : Int) < (C : Int) := by omega
            have i9 : (0 : Int) ≤ (X : Int) := by omega
            have i10 : IntKind.i64.wrap ((b : Int) + 1) = ((b + 1 : Nat) : Int) := by rw [show (b : Int) + 1 = ((b + 1 : Nat) : Int) by omega]; exact IntWalk.i64_in _ (by omega)
            have i4 := i4h.out
            clear hX hBe hstep hst hs u1 hbel hLi
            cases gk with
            | zero => omega
            | succ k2 =>
              go_wp2_with fail
              refine wp_region_still_tail 14 (by kernel_rfl) (by kernel_rfl) ?_
              simp only [List.take_succ_cons, List.take_zero, List.drop_succ_cons, List.drop_zero]
              repeat still_step
              refine wpStill_nil ?_
              change wpList _ _ _ _ _ wr.drew
              go_wp2_with fail
              go_roundg k2
              case measure => omega
              case rel => exact ⟨b + 1, by go_num, by omega, HST.out.drewN 1, (HB.out.drew).setCell hgw _⟩
          · have hbn : i + b = n := by omega
            obtain rfl : b = L := by omega
            have t2 : decide (b < b) = false := by rw [decide_eq_false_iff_not]; omega
            have hd := HDI.out
            rw [hbn, owt_end HM.out HN.out.symm] at hd
            have HD := Lib.hid hd
            clear hd hbel hLi
            have hsh := sethigh_any r H _ 0 0 false wr HD.out HW64.out (by rw [HTL.out]; omega)
            have HSH := Lib.hid hsh
            clear hsh
            go_wp2_with fail
            refine HSH.out.mono ?_
            rintro e2 w5 ⟨rfl, hd2, hf2⟩
            have hsl := setlow_any r H _ _ _ _ w5 hd2 HW64.out (by rw [HTL.out]; omega)
            have hb5 : Below w.heap.size w w5 := HB.out.trans (hf2.below (B := w.heap.size) HFR.out hsr)
            have HSL := Lib.hid hsl
            have HB5 := Lib.hid hb5
            clear hd2 hf2 hsl hb5
            go_wp2_with fail
            refine HSL.out.mono ?_
            rintro e2 w6 ⟨rfl, hd3, hf3⟩
            have hb6 : Below w.heap.size w w6 := HB5.out.trans (hf3.below (B := w.heap.size) HFR.out HB5.out.size)
            have hfin : DeW w6 r H (wordsOf C (orw ps W)) := by
              unfold DeW
              by_cases ha : anyW (wordsOf C (orw ps W)) = true
              · rw [if_pos ha] at hd3; exact hd3
              · rw [if_neg ha] at hd3
                have e : dnums (wordsOf C (orw ps W)) = [] := by unfold anyW at ha; simpa using ha
                rw [(lo_nil e).2.1]; exact hd3
            have HFIN := Lib.hid hfin
            have HB6 := Lib.hid hb6
            clear hd3 hf3 hb6 hfin
            go_wp2_with fail
            go_ret
            exact ⟨r, H, rfl, HFIN.out, HFR.out, HB6.out⟩
      · have t1 : ((j : Int) == (m' : Int)) = false := by rw [beq_eq_false_iff_ne]; omega
        have hjl : j < m' := by omega
        obtain ⟨g1, g2, rfl, rfl, u1, u2⟩ := HPC.out i hil
        obtain ⟨g3, rfl, v1⟩ := HQC.out j hjl
        replace u1 := cell_below hbel (Nat.le_refl _) u1
        replace u2 := cell_below hbel (Nat.le_refl _) u2
        replace v1 := cell_below hbel (Nat.le_refl _) v1
        have hge := HHIGH.out i (Nat.le_refl _) hil
        have hB64 : (ps.getD i (0, 0)).2 < 18446744073709551616 := HO1.out.2 (ps.getD i (0, 0)) (by rw [List.getD_eq_getElem?_getD, List.getElem?_eq_getElem (by rw [HN.out]; exact hil)]; exact List.getElem_mem _)
        have hA64 : W.getD j 0 < 18446744073709551616 := getD_lt HO2.out j
        have hkl : ∀ b, i < b → b < n → (ps.getD i (0, 0)).1 < (ps.getD b (0, 0)).1 := fun b h1 h2 => keys_lt HO1.out h1 (by rw [HN.out]; exact h2)
        have hhit := fun (e : (ps.getD i (0, 0)).1 = j) => orw_hit HO1.out W (b := i) (X := j) (B := (ps.getD i (0, 0)).2) (by rw [HN.out]; exact hil) (by rw [← e])
        have hmiss := fun (e : ∀ b, b < n → (ps.getD b (0, 0)).1 ≠ j) => orw_miss (ps := ps) W (t := j) (fun b hb => e b (by rw [← HN.out]; exact hb))
        obtain ⟨X, hX⟩ : ∃ X, (ps.getD i (0, 0)).1 = X := ⟨_, rfl⟩
        obtain ⟨B, hBe⟩ : ∃ B, (ps.getD i (0, 0)).2 = B := ⟨_, rfl⟩
        obtain ⟨A, hAe⟩ : ∃ A, W.getD j 0 = A := ⟨_, rfl⟩
        rw [hX] at hge u2 hkl hhit
        rw [hBe] at u1 hB64 hhit
        rw [hAe] at v1 hA64 hhit hmiss
        obtain ⟨g, c, d0, hfz, ⟨X0, hx0⟩, hgw, hst⟩ := DeAt.store HDE.out (ows_len ps W C j) (X := j) (by omega) HFR.out
        have hst := hst (orw ps W j)
        rw [ows_step] at hst
        have HKL := Lib.hid hkl
        have HX := Lib.hid hX
        have i1 : (i : Int) < (n : Int) := by omega
        have i2 : (0 : Int) ≤ (i : Int) := by omega
        have j1 : (j : Int) < (m' : Int) := by omega
        have j2 : (0 : Int) ≤ (j : Int) := by omega
        have j3 : (j : Int) < (C : Int) := by omega
        have j4 : j < C := by omega
        have jw : IntKind.u64.wrap (j : Int) = (j : Int) := u64wd j (by omega)
        have jw1 : IntKind.i64.wrap ((j : Int) + 1) = ((j + 1 : Nat) : Int) := by rw [show (j : Int) + 1 = ((j + 1 : Nat) : Int) by omega]; exact IntWalk.i64_in _ (by omega)
        have iw1 : IntKind.i64.wrap ((i : Int) + 1) = ((i + 1 : Nat) : Int) := by rw [show (i : Int) + 1 = ((i + 1 : Nat) : Int) by omega]; exact IntWalk.i64_in _ (by omega)
        clear hkl hX hBe hAe hin hjm hbel
        cases gk with
        | zero => omega
        | succ k =>
          by_cases hXj : X = j
          · have t3 : ((X : Int) == (j : Int)) = true := by rw [hXj]; exact beq_self_eq_true _
            have hor := hhit hXj
            rw [hor] at hst
            have hbo : ∀ w', Calls Tryz.prog 95 #[.int .u64 (B : Int), .int .u64 (A : Int)] w' fun e w'' => e = .returned (.int .u64 ((B ||| A : Nat) : Int)) ∧ w'' = w' := fun w' => (bor_any B A hB64 hA64 w').mono fun _ _ h => ⟨h.1, h.2.symm⟩
            obtain ⟨R, hR⟩ : ∃ R, B ||| A = R := ⟨_, rfl⟩
            rw [hR] at hst hbo
            have HST := Lib.hid hst
            have HBO := Lib.hid hbo
            have HXJ := Lib.hid hXj
            clear hor hst hbo hR hhit hmiss hXj hA64 hB64 hge
            go_wp2_with fail
            refine wp_region_still_tail 20 (by kernel_rfl) (by kernel_rfl) ?_
            simp only [List.take_succ_cons, List.take_zero, List.drop_succ_cons, List.drop_zero]
            repeat still_step
            still_call (HBO.out _)
            repeat still_step
            refine wpStill_nil ?_
            change wpList _ _ _ _ _ wr.drew
            go_wp2_with fail
            go_roundg k
            case measure => omega
            case rel => exact ⟨i + 1, j + 1, by go_num, by go_num, by omega, by omega, fun b h1 h2 => (by
                rcases Nat.eq_or_lt_of_le (Nat.le_of_lt_succ h1) with e | e
                · rw [e, HX.out, HXJ.out]; omega
                · have := HLOW.out b e h2; omega), fun b h1 h2 => (by have := HKL.out b h1 h2; rw [HXJ.out] at this; omega), HST.out.drewN 1, (HB.out.drew).setCell hgw _⟩
          · have t3 : ((X : Int) == (j : Int)) = false := by rw [beq_eq_false_iff_ne]; omega
            have hXgt : j < X := by omega
            have hor := hmiss (fun b hb => by
              by_cases hbi : b < i
              · have := HLOW.out b hbi hb; omega
              · rcases Nat.eq_or_lt_of_le (Nat.le_of_not_lt hbi) with e | e
                · rw [← e, HX.out]; omega
                · have := HKL.out b e hb; omega)
            rw [hor] at hst
            have HST := Lib.hid hst
            have HXG := Lib.hid hXgt
            clear hor hst hhit hmiss hXj hXgt hA64 hB64 hge
            go_wp2_with fail
            refine wp_region_still_tail 12 (by kernel_rfl) (by kernel_rfl) ?_
            simp only [List.take_succ_cons, List.take_zero, List.drop_succ_cons, List.drop_zero]
            repeat still_step
            refine wpStill_nil ?_
            change wpList _ _ _ _ _ wr.drew
            go_wp2_with fail
            go_roundg k
            case measure => omega
            case rel => exact ⟨i, j + 1, rfl, by go_num, by omega, by omega, fun b h1 h2 => (by have := HLOW.out b h1 h2; omega), fun b h1 h2 => (by
                rcases Nat.eq_or_lt_of_le h1 with e | e
                · rw [← e, HX.out]; have := HXG.out; omega
                · have := HKL.out b e h2; have := HXG.out; omega), HST.out.drewN 1, (HB.out.drew).setCell hgw _⟩
end Go.Proofs.YtjnefgmoobbniaaGreat
