/- Walks of sparse arrays' get, GetBit, ClearBit, Reset, Capacity, IsEmpty, Count. -/
import Derived.Test.YtgifbdjifmoafaaGreatBaSp
import Derived.Test.YtgifbdjifmoafaaGreatOnes
namespace Go.Proofs.YtgifbdjifmoafaaGreat
set_option linter.unusedVariables false
open Go.RowKit Bam

theorem obl_any (a : Option Addr) (n c m d : Nat) : obl (.slice a n c) = obl (.slice a m d) := by cases a <;> rfl
theorem SpAt.cells {w : World} {p : Nat} {F : List Nat} {ps : Ps} (h : SpAt w p F ps) : ∃ (a1 : Option Addr) (c1 : Nat) (a2 : Option Addr) (c2 : Nat), w.cell? ⟨p, 0, none⟩ = some (.slice a1 ps.length c1) ∧ w.cell? ⟨p, 1, none⟩ = some (.slice a2 ps.length c2) ∧
    (0 < ps.length → ∃ g1 g2, a1 = some ⟨g1, 0, none⟩ ∧ a2 = some ⟨g2, 0, none⟩ ∧ ∀ r, r < ps.length → w.cell? ⟨g1, r, none⟩ = some (.int .u64 (((ps.getD r (0, 0)).2 : Nat) : Int)) ∧ w.cell? ⟨g2, r, none⟩ = some (.int .u64 (((ps.getD r (0, 0)).1 : Nat) : Int))) ∧
    Us w (.slice a2 ps.length c2) (ps.map Prod.fst) ∧ Ue 87 w (.slice a1 ps.length c1) (ps.map Prod.snd) := by
  obtain ⟨a1, c1, a2, c2, h1, h2, h3, rfl⟩ := h
  refine ⟨a1, c1, a2, c2, h1.cell 0 rfl, h1.cell 1 rfl, fun hn => ?_, h3, h2⟩
  have hm1 : (ps.map Prod.snd).length = ps.length := List.length_map _
  have hm2 : (ps.map Prod.fst).length = ps.length := List.length_map _
  rcases h2.cases with ⟨e, e2⟩ | ⟨g1, cap, e, _, _, _, hc1⟩
  · have := congrArg List.length e2; rw [hm1] at this; simp only [List.length_nil] at this; omega
  rcases h3.cases with ⟨e', e2⟩ | ⟨g2, cap', e', _, _, _, hc2⟩
  · have := congrArg List.length e2; rw [hm2] at this; simp only [List.length_nil] at this; omega
  injection e with e1
  injection e' with e2
  refine ⟨g1, g2, e1, e2, fun r hr => ⟨?_, ?_⟩⟩
  · have := hc1 r (by omega)
    rw [map_getD_snd ps r hr] at this
    rw [this, List.getD_eq_getElem?_getD, List.getElem?_eq_getElem hr]; rfl
  · have := hc2 r (by omega)
    rw [map_getD_fst ps r hr] at this
    rw [this, List.getD_eq_getElem?_getD, List.getElem?_eq_getElem hr]; rfl

set_option maxHeartbeats 400000 in
theorem uget_yes (v : Value) (S : List Nat) (x r : Nat) (w : World) (hv : Us w v S) (hn : S.length ≤ 1000000) (hs : Asc S) (hR : sAt S x = r) (hr : r < S.length) (hx : S.getD r 0 = x) :
    Calls Tryz.prog 126 #[v, .int .u64 (x : Int)] w fun e w' => e = .returned (.int .i64 (r : Int)) ∧ Below w.heap.size w w' := by
  have hse := search_any v S x w hv hn hs
  rw [hR] at hse
  rcases hv.cases with ⟨rfl, rfl⟩ | ⟨g, cap, rfl, hg, h1, h2, hcell⟩
  · simp at hr
  obtain ⟨n, hN⟩ : ∃ n, n = S.length := ⟨_, rfl⟩
  have hcr := hcell r hr
  rw [hx] at hcr
  rw [← hN] at hse hn hr ⊢
  have HS := Lib.hid hse
  have hne2 : ((r : Int) == (n : Int)) = false := by simp; omega
  have hlt := World.block_lt_of_cell? w _ hcr
  have HC := Lib.hid hcr
  clear hv hse hcell hN hR hx h1 h2 hcr hs
  go_enter Tryz.func126, Tryz.ntmps126
  go_wp2_with fail
  refine HS.out.mono ?_
  rintro e w1 ⟨rfl, hb⟩
  have hc1 : w1.cell? ⟨g, r, none⟩ = some (.int .u64 (x : Int)) := by rw [hb.cell hlt]; exact HC.out
  go_wp2_with fail
  go_ret
  exact ⟨rfl, hb⟩
set_option maxHeartbeats 400000 in
theorem uget_no (v : Value) (S : List Nat) (x : Nat) (w : World) (hv : Us w v S) (hn : S.length ≤ 1000000) (hs : Asc S) (hx : ∀ y, S[sAt S x]? = some y → y ≠ x) :
    Calls Tryz.prog 126 #[v, .int .u64 (x : Int)] w fun e w' => e = .returned (.int .i64 (-1)) ∧ Below w.heap.size w w' := by
  have hse := search_any v S x w hv hn hs
  have hle := sAt_le S x
  obtain ⟨r, hR⟩ : ∃ r, r = sAt S x := ⟨_, rfl⟩
  rw [← hR] at hse hle hx
  obtain ⟨n, hN⟩ : ∃ n, n = S.length := ⟨_, rfl⟩
  by_cases hr : r = n
  · obtain ⟨a, cap, rfl, _⟩ := hv.shape
    rw [← hN] at hse hn ⊢
    have HS := Lib.hid hse
    subst hr
    clear hv hse hR hx hs hle hN
    go_enter Tryz.func126, Tryz.ntmps126
    go_wp2_with fail
    refine HS.out.mono ?_
    rintro e w1 ⟨rfl, hb⟩
    go_wp2_with fail
    go_ret
    exact ⟨rfl, hb⟩
  · rcases hv.cases with ⟨rfl, rfl⟩ | ⟨g, cap, rfl, hg, h1, h2, hcell⟩
    · simp at hle hN; omega
    have hcr := hcell r (by omega)
    have hx2 := hx (S.getD r 0) (by rw [List.getElem?_eq_getElem (by omega)]; simp [List.getD_eq_getElem?_getD, show r < S.length from by omega])
    obtain ⟨X, hX⟩ : ∃ X, S.getD r 0 = X := ⟨_, rfl⟩
    rw [hX] at hcr hx2
    rw [← hN] at hse hn ⊢
    have HS := Lib.hid hse
    have hne2 : ((r : Int) == (n : Int)) = false := by simp; omega
    have hxx : ((X : Int) == (x : Int)) = false := by simp; omega
    have hlt := World.block_lt_of_cell? w _ hcr
    have HC := Lib.hid hcr
    have hrn : r < n := by omega
    clear hv hse hcell hN hR hx h1 h2 hcr hs hX hx2 hle hr
    go_enter Tryz.func126, Tryz.ntmps126
    go_wp2_with fail
    refine HS.out.mono ?_
    rintro e w1 ⟨rfl, hb⟩
    have hc1 : w1.cell? ⟨g, r, none⟩ = some (.int .u64 (X : Int)) := by rw [hb.cell hlt]; exact HC.out
    go_wp2_with fail
    go_ret
    exact ⟨rfl, hb⟩

set_option maxHeartbeats 400000 in
theorem getbit_any (p : Nat) (F : List Nat) (ps : Ps) (k : Nat) (w : World) (h : SpAt w p F ps) (hok : Ok ps) (hn : ps.length ≤ 1000) (hk : k < 18446744073709551616) :
    Calls Tryz.prog 115 #[.pointer (some ⟨p, 0, none⟩), .int .u64 (k : Int)] w fun e w' => e = .returned (.tuple #[.bool (sHas (nums ps) k), .nilIface]) ∧ Below w.heap.size w w' := by
  rw [← get_ok hok]
  obtain ⟨a1, c1, a2, c2, h0, h1, hcells, hU, hW⟩ := h.cells
  have hir := idxrem_any k hk w
  have hps := pos_sAt ps (k / 64)
  have hj : k % 64 < 64 := Nat.mod_lt _ (by decide)
  have hl : (ps.map Prod.fst).length = ps.length := List.length_map _
  by_cases hc : ∀ q, ps[pos ps (k / 64)]? = some q → q.1 ≠ k / 64
  · rw [look_new hok hc, Nat.zero_testBit]
    have hg := uget_no _ _ (k / 64) w hU (by omega) hok.1 (fun y hy => by
      rw [← hps, List.getElem?_map] at hy
      cases hq : ps[pos ps (k / 64)]? with
      | none => rw [hq] at hy; cases hy
      | some q => rw [hq] at hy; injection hy with hy; rw [← hy]; exact hc q hq)
    have HG := Lib.hid hg
    have HIR := Lib.hid hir
    clear hg hir hU hW hcells hps hc hok h
    go_enter Tryz.func115, Tryz.ntmps115
    go_wp2_with fail
    refine HIR.out.mono ?_
    rintro e w0 ⟨rfl, rfl⟩
    go_wp2_with fail
    refine HG.out.mono ?_
    rintro e w1 ⟨rfl, hb⟩
    go_wp2_with fail
    go_ret2
    exact ⟨rfl, hb⟩
  · have hq : ∃ b, ps[pos ps (k / 64)]? = some (k / 64, b) := by
      cases hq : ps[pos ps (k / 64)]? with
      | none => exact absurd (fun q e => by rw [hq] at e; cases e) hc
      | some q =>
        obtain ⟨i, b⟩ := q
        by_cases e : i = k / 64
        · exact ⟨b, by rw [e]⟩
        · exact absurd (fun q e2 => by rw [hq] at e2; injection e2 with e2; rw [← e2]; exact e) hc
    obtain ⟨b, hq⟩ := hq
    have hb64 : b < 18446744073709551616 := hok.2 _ (List.mem_of_getElem? hq)
    have hlk : Bam.look ps (k / 64) = b := look_mem hok (List.mem_of_getElem? hq)
    rw [hlk]
    obtain ⟨r, hr⟩ : ∃ r, r = pos ps (k / 64) := ⟨_, rfl⟩
    rw [← hr] at hq hps
    have hrl : r < ps.length := (List.getElem?_eq_some_iff.1 hq).1
    have hg := uget_yes _ _ (k / 64) r w hU (by omega) hok.1 hps.symm (by omega) (by rw [map_getD_fst ps r hrl, (List.getElem?_eq_some_iff.1 hq).2])
    obtain ⟨g1, g2, rfl, rfl, hcl⟩ := hcells (by omega)
    have hcr := (hcl r hrl).1
    rw [List.getD_eq_getElem?_getD, hq] at hcr
    have hcr : w.cell? ⟨g1, r, none⟩ = some (.int .u64 (b : Int)) := hcr
    have hlt := World.block_lt_of_cell? w _ hcr
    have hlt0 := World.block_lt_of_cell? w _ h0
    obtain ⟨n, hN⟩ : ∃ n, n = ps.length := ⟨_, rfl⟩
    rw [← hN] at hg h0 h1 hrl hn
    have HG := Lib.hid hg
    have HIR := Lib.hid hir
    have HC := Lib.hid hcr
    have H0 := Lib.hid h0
    have HBG := Lib.hid (fun w => bget_any b (k % 64) hb64 hj w)
    have hrn : (r : Int) < (n : Int) := by omega
    have hrn0 : (0 : Int) ≤ (r : Int) := by omega
    have hne : ((r : Int) == -1) = false := by rw [beq_eq_false_iff_ne]; omega
    clear hg hir hU hW hcl hcr hps hc hok h hcells hr hlk hq hb64 hN
    go_enter Tryz.func115, Tryz.ntmps115
    go_wp2_with fail
    refine HIR.out.mono ?_
    rintro e w0 ⟨rfl, rfl⟩
    go_wp2_with fail
    refine HG.out.mono ?_
    rintro e w1 ⟨rfl, hb⟩
    have hc1 : w1.cell? ⟨g1, r, none⟩ = some (.int .u64 (b : Int)) := by rw [hb.cell hlt]; exact HC.out
    have hc0 : w1.cell? ⟨p, 0, none⟩ = some (.slice (some ⟨g1, 0, none⟩) n c1) := by rw [hb.cell hlt0]; exact H0.out
    go_wp2_with fail
    refine (HBG.out _).mono ?_
    rintro e w2 ⟨rfl, rfl⟩
    go_wp2_with fail
    go_ret2
    exact ⟨rfl, hb⟩

theorem isempty_any (p : Nat) (F : List Nat) (ps : Ps) (w : World) (h : SpAt w p F ps) (hn : ps.length ≤ 1000) :
    Calls Tryz.prog 118 #[.pointer (some ⟨p, 0, none⟩)] w fun e w' => e = .returned (.bool (decide (ps.length = 0))) ∧ w = w' := by
  obtain ⟨a1, c1, a2, c2, h0, h1, hcells, hU, hW⟩ := h.cells
  clear hcells hU hW h0 h
  go_enter Tryz.func118, Tryz.ntmps118
  go_wp2_with fail
  go_ret
  exact ⟨ret_bool (by rw [Bool.eq_iff_iff]; simp), rfl⟩

set_option maxHeartbeats 400000 in
theorem capacity_any (p : Nat) (F : List Nat) (ps : Ps) (w : World) (h : SpAt w p F ps) (hn : ps.length ≤ 1000) (hb : ∀ q ∈ ps, q.1 < 144115188075855872) :
    Calls Tryz.prog 109 #[.pointer (some ⟨p, 0, none⟩)] w fun e w' => e = .returned (.int .u64 ((capP ps : Nat) : Int)) ∧ ∃ q, w' = w.drewN q := by
  obtain ⟨a1, c1, a2, c2, h0, h1, hcells, hU, hW⟩ := h.cells
  by_cases hz : ps.length = 0
  · obtain rfl : ps = [] := List.eq_nil_of_length_eq_zero hz
    clear hcells hU hW h0 h hb
    simp only [List.length_nil] at h1
    show Calls _ _ _ _ fun e w' => e = .returned (.int .u64 0) ∧ _
    go_enter Tryz.func109, Tryz.ntmps109
    go_wp2_with fail
    go_ret
    exact ⟨rfl, 0, rfl⟩
  · obtain ⟨g1, g2, rfl, rfl, hcl⟩ := hcells (by omega)
    obtain ⟨m, hm⟩ : ∃ m, ps.length = m + 1 := ⟨ps.length - 1, by omega⟩
    have hcm := (hcl m (by omega)).2
    have hgl : ps.getLast? = some (ps.getD m (0, 0)) := by
      rw [List.getLast?_eq_getElem?, hm, Nat.add_sub_cancel, List.getElem?_eq_getElem (by omega)]
      simp [List.getD_eq_getElem?_getD, show m < ps.length from by omega]
    have he : capP ps = ((ps.getD m (0, 0)).1 + 1) * 64 := by unfold capP; rw [hgl]
    have hx : (ps.getD m (0, 0)).1 < 144115188075855872 := hb _ (List.mem_of_getLast? hgl)
    rw [he]
    obtain ⟨X, hX⟩ : ∃ X, (ps.getD m (0, 0)).1 = X := ⟨_, rfl⟩
    rw [hX] at hcm hx ⊢
    obtain ⟨n, hN⟩ : ∃ n, n = ps.length := ⟨_, rfl⟩
    rw [← hN] at h0 h1 hz hm hn
    have k1 : IntKind.i64.wrap ((n : Int) - 1) = (m : Int) := by rw [IntWalk.i64_in _ (by omega)]; omega
    have k2 : (m : Int) < (n : Int) := by omega
    have k3 : (0 : Int) ≤ (m : Int) := by omega
    have k4 : m < n := by omega
    have k5 : ((n : Int) == 0) = false := by simp; omega
    have k6 : IntKind.u64.wrap ((X : Int) + 1) = ((X + 1 : Nat) : Int) := by rw [IntKind.wrap_u64]; omega
    have k7 : IntKind.u64.wrap (((X + 1 : Nat) : Int) * 64) = (((X + 1) * 64 : Nat) : Int) := by rw [IntKind.wrap_u64]; omega
    have K6 := Lib.hid k6
    have K7 := Lib.hid k7
    have HM := Lib.hid hm
    clear hcells hU hW hcl h hb hgl he hX hN hm h0 k6 k7
    go_enter Tryz.func109, Tryz.ntmps109
    go_wp2_with fail
    go_quiet (fail)
    go_wp2_with fail
    go_ret
    exact ⟨ret_int (by omega), _, rfl⟩

def CntRel (ps : Ps) (w : World) (n k : Nat) (cnt idx : Value) (wr : World) : Prop :=
  ∃ i : Nat, idx = .int .i64 (i : Int) ∧ i + k = n ∧ cnt = .int .i64 (cntP (ps.take i) : Nat) ∧ wr = w
theorem cnt_take (ps : Ps) (i : Nat) (h : i < ps.length) : cntP (ps.take (i + 1)) = cntP (ps.take i) + Pop.pc 64 (ps.getD i (0, 0)).2 := by
  unfold cntP
  rw [List.take_succ_eq_append_getElem h, List.map_append, List.sum_append]
  simp [List.getD_eq_getElem?_getD, h]
theorem cnt_take_le (ps : Ps) (i : Nat) : cntP (ps.take i) ≤ 64 * i := by
  induction i with
  | zero => simp [cntP]
  | succ i ih =>
    by_cases h : i < ps.length
    · rw [cnt_take ps i h]; have := Pop.pc_le 64 (ps.getD i (0, 0)).2; omega
    · rw [List.take_of_length_le (by omega)] at ih ⊢; omega

set_option maxHeartbeats 400000 in
theorem count_any (p : Nat) (F : List Nat) (ps : Ps) (w : World) (h : SpAt w p F ps) (hok : Ok ps) (hn : ps.length ≤ 1000) :
    Calls Tryz.prog 113 #[.pointer (some ⟨p, 0, none⟩)] w fun e w' => e = .returned (.int .i64 ((nums ps).length : Nat)) ∧ w = w' := by
  rw [cnt_nums]
  obtain ⟨a1, c1, a2, c2, h0, h1, hcells, hU, hW⟩ := h.cells
  obtain ⟨n, hN⟩ : ∃ n, n = ps.length := ⟨_, rfl⟩
  rw [← hN] at h0 h1 hn hcells
  have HN := Lib.hid hN
  have HC := Lib.hid hcells
  have HOK := Lib.hid hok
  clear hcells hU hW h hN hok h1
  go_enter Tryz.func113, Tryz.ntmps113
  go_wp2_with fail
  go_loopg [3, 11] n (fun k cnt idx wr => CntRel ps w n k cnt idx wr)
  case atStart => exact ⟨0, rfl, by omega, rfl, rfl⟩
  case round =>
    obtain ⟨i, rfl, hik, rfl, rfl⟩ := hrel
    have hcl := cnt_take_le ps i
    by_cases hi : i < n
    · obtain ⟨g1, g2, rfl, _, hcl2⟩ := HC.out (by omega)
      have hci := (hcl2 i hi).1
      have e1 := cnt_take ps i (by rw [← HN.out]; exact hi)
      have hX64 : (ps.getD i (0, 0)).2 < 18446744073709551616 := HOK.out.2 _ (by
        have hi' : i < ps.length := by rw [← HN.out]; exact hi
        rw [List.getD_eq_getElem?_getD, List.getElem?_eq_getElem hi']; exact List.getElem_mem hi')
      obtain ⟨X, hX⟩ : ∃ X, (ps.getD i (0, 0)).2 = X := ⟨_, rfl⟩
      rw [hX] at hci e1 hX64
      have HO := Lib.hid (fun w => ones_any X w hX64)
      have E1 := Lib.hid e1
      have hpl := Pop.pc_le 64 X
      generalize Pop.pc 64 X = P at E1 HO hpl
      generalize cntP (ps.take i) = C at E1 hcl ⊢
      clear hcl2 e1 hX hX64
      cases gk with
      | zero => omega
      | succ k =>
        go_wp2_with fail
        refine (HO.out _).mono ?_
        rintro e w1 ⟨rfl, rfl⟩
        go_wp2_with fail
        go_roundg k
        case measure => omega
        case rel => exact ⟨i + 1, by go_num, by omega, by rw [E1.out]; go_num, rfl⟩
    · obtain rfl : i = n := by omega
      have e1 : ps.take i = ps := List.take_of_length_le (by rw [HN.out]; exact Nat.le_refl _)
      rw [e1] at hcl ⊢
      obtain ⟨C, hC⟩ : ∃ C, cntP ps = C := ⟨_, rfl⟩
      rw [hC] at hcl ⊢
      have HC2 := Lib.hid hC
      clear e1 hC
      go_wp2_with fail
      go_ret
      exact ⟨by rw [HC2.out]; rfl, rfl⟩

set_option maxHeartbeats 400000 in
theorem reset_any (p : Nat) (F : List Nat) (ps : Ps) (w : World) (h : SpAt w p F ps) (hn : ps.length ≤ 1000) :
    Calls Tryz.prog 121 #[.pointer (some ⟨p, 0, none⟩)] w fun e w' => e = .returned (.tuple #[]) ∧ ∃ F', SpAt w' p F' [] ∧ Fr F F' w w' := by
  obtain ⟨a1, c1, a2, c2, h1, h2, h3, rfl⟩ := h
  have h0 : w.cell? ⟨p, 0, none⟩ = some (.slice a1 ps.length c1) := h1.cell 0 rfl
  have hf0 := h1.free 0
  have hB1 := h1.set 0
  have key : ∀ (a : Option Addr) (c : Nat) (e : TypeId) (S : List Nat) (n : Nat), n = S.length → Ue e w (.slice a n c) S → (n ≤ c) ∧ (a = none → c = 0) ∧ ∀ w', Fr [p] [p] w w' → (∀ k ∈ obl (.slice a n c), k ≠ p) → Ue e w' (.slice a 0 c) [] := by
    intro a c e S n hn h
    subst hn
    rcases h.cases with ⟨e1, e2⟩ | ⟨g, cap, e1, _, h1, _, _⟩
    · injection e1 with e1 _ e3
      subst e1 e3
      exact ⟨by rw [e2]; exact Nat.le_refl _, fun _ => rfl, fun w' _ _ => Ue.nil _ _⟩
    · injection e1 with e1 _ e3
      subst e1 e3
      refine ⟨h1, fun e => (by cases e), fun w' hf hp => ?_⟩
      have := own_short h (Nat.zero_le _)
      have h2 := hf.own this (fun k hk hk2 => hp k (by simpa [obl_some] using hk) (List.mem_singleton.1 hk2))
      rw [List.take_zero] at h2
      exact h2
  obtain ⟨k1, k2, k3⟩ := key a1 c1 _ _ ps.length (by simp) h2
  obtain ⟨m1, m2, m3⟩ := key a2 c2 _ _ ps.length (by simp) h3
  have hp1 : ∀ k ∈ obl (.slice a1 ps.length c1), k ≠ p := fun k hk e => row_blk h2 h1 (by decide) (e ▸ mem_obl.1 hk)
  have hp2 : ∀ k ∈ obl (.slice a2 ps.length c2), k ≠ p := fun k hk e => row_blk h3 h1 (by decide) (e ▸ mem_obl.1 hk)
  have K3 := Lib.hid k3
  have M3 := Lib.hid m3
  have HP1 := Lib.hid hp1
  have HP2 := Lib.hid hp2
  have HB := Lib.hid h1
  obtain ⟨n, hN⟩ : ∃ n, n = ps.length := ⟨_, rfl⟩
  rw [← hN] at h0 hn k1 m1 K3 M3 HP1 HP2 HB ⊢
  have hc1 : (0 : Int) ≤ (c1 : Int) := by omega
  have hc2 : (0 : Int) ≤ (c2 : Int) := by omega
  clear key k3 m3 hp1 hp2 h1 h2 h3 hB1 hN
  have fin : ∀ (b1 b2 : Option Addr), b1 = a1 → b2 = a2 → ∃ F', SpAt ((w.setCell ⟨p, 0, none⟩ (.slice b1 0 c1)).setCell ⟨p, 1, none⟩ (.slice b2 0 c2)) p F' [] ∧ Fr (p :: (obl (.slice a1 n c1) ++ obl (.slice a2 n c2))) F' w ((w.setCell ⟨p, 0, none⟩ (.slice b1 0 c1)).setCell ⟨p, 1, none⟩ (.slice b2 0 c2)) := by
    rintro b1 b2 rfl rfl
    have hf : Fr [p] [p] w ((w.setCell ⟨p, 0, none⟩ (.slice b1 0 c1)).setCell ⟨p, 1, none⟩ (.slice b2 0 c2)) := (fr_store_other w p 0 _).trans (fr_store_other _ p 1 _)
    refine ⟨_, ⟨b1, c1, b2, c2, (HB.out.set 0 _).set 1 _, K3.out _ hf HP1.out, M3.out _ hf HP2.out, rfl⟩, ?_⟩
    refine Fr.weaken hf (fun k hk => by rw [List.mem_singleton.1 hk]; exact List.mem_cons_self) (fun k hk => ?_)
    rcases List.mem_cons.1 hk with e | e
    · exact .inl (by rw [e]; exact List.mem_cons_self)
    · refine .inr (List.mem_cons_of_mem _ ?_)
      rcases List.mem_append.1 e with e | e
      · exact List.mem_append.2 (.inl (by rw [obl_any b1 n c1 0 c1]; exact e))
      · exact List.mem_append.2 (.inr (by rw [obl_any b2 n c2 0 c2]; exact e))
  have FIN := Lib.hid fin
  have c10 : (w.setCell ⟨p, 0, none⟩ (.slice a1 0 c1)).cell? ⟨p, 1, none⟩ = some (.slice a2 n c2) := (HB.out.set 0 _).cell 1 rfl
  have f10 := (HB.out.set 0 (.slice a1 0 c1)).free 1
  clear fin
  cases a1 with
  | none =>
    obtain rfl := k2 rfl
    cases a2 with
    | none =>
      obtain rfl := m2 rfl
      clear k2 m2
      go_enter Tryz.func121, Tryz.ntmps121
      go_wp2_with fail
      go_end0
      exact ⟨rfl, FIN.out none none rfl rfl⟩
    | some ad =>
      clear k2 m2
      go_enter Tryz.func121, Tryz.ntmps121
      go_wp2_with fail
      go_end0
      exact ⟨rfl, FIN.out none (some ad) rfl rfl⟩
  | some ad1 =>
    cases a2 with
    | none =>
      obtain rfl := m2 rfl
      clear k2 m2
      go_enter Tryz.func121, Tryz.ntmps121
      go_wp2_with fail
      go_end0
      exact ⟨rfl, FIN.out (some ad1) none rfl rfl⟩
    | some ad =>
      clear k2 m2
      go_enter Tryz.func121, Tryz.ntmps121
      go_wp2_with fail
      go_end0
      exact ⟨rfl, FIN.out (some ad1) (some ad) rfl rfl⟩
end Go.Proofs.YtgifbdjifmoafaaGreat
