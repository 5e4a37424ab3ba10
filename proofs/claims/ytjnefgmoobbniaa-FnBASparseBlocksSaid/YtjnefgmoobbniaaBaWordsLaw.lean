/- Walk of laws.baWords at a sparse array. -/
import Derived.Test.YtjnefgmoobbniaaBaBlocks
import Derived.Test.YtjnefgmoobbniaaBaMade
import Derived.Test.YtjnefgmoobbniaaBaSparseLaw
import Derived.Test.YtjnefgmoobbniaaApRow
namespace Go.Proofs.Ytjnefgmoobbniaa
set_option linter.unusedVariables false
open Go.RowKit Bam

def stp17 : Stp := ⟨17, 0, 0, 0, 0, false⟩
def stp10 : Stp := ⟨10, 0, 0, 0, 0, false⟩

/-- rows that were laid at once -/
theorem rw_new {S : Nat} (w : World) (e : TypeId) (cs : Array Value) (rows : List (List Value)) (hS : ∀ r ∈ rows, r.length = S) (hc : cs.toList = rows.flatten) (n : Nat) (hn : rows.length = n) (hm : n ≤ maxLen) : Rw S (w.alloc (.cells cs e)) (.slice (some ⟨w.heap.size, 0, none⟩) n n) rows := by
  refine ⟨_, n, n, rfl, hn, Nat.le_refl _, hm, fun _ => ⟨_, 0, rfl, fun i row hi j u hu => ?_⟩⟩
  have hf := flatten_at S rows hS i j row u hi hu
  rw [Nat.zero_add]
  refine (Blk.new w e cs).cell (i * S + j) ?_
  rw [← Array.getElem?_toList, hc]
  exact hf

theorem sl_two (w : World) (X Y : Nat) (e : TypeId) : Sl (w.alloc (.cells #[.int .u64 (X : Int), .int .u64 (Y : Int)] e)) (.slice (some ⟨w.heap.size, 0, none⟩) 2 2) (u64s [X, Y]) := by
  refine ⟨_, 2, 2, rfl, rfl, Nat.le_refl _, by decide, fun _ => ⟨w.heap.size, 0, rfl, fun t u hu => ?_⟩⟩
  rw [Nat.zero_add]
  refine (Blk.new w e #[.int .u64 (X : Int), .int .u64 (Y : Int)]).cell t ?_
  rw [← Array.getElem?_toList]
  exact hu
theorem sl_twoD (w : World) (X Y : Nat) (e : TypeId) : Sl (w.alloc (.cells #[.int .u64 (X : Int), .int .u64 (Y : Int)] e)).drew (.slice (some ⟨w.heap.size, 0, none⟩) 2 2) (u64s [X, Y]) := (sl_two w X Y e).below rfl (Below.refl _ _).drew
theorem u64wd (n : Nat) (h : n < 18446744073709551616) : IntKind.u64.wrap (n : Int) = (n : Int) := by
  simp only [IntKind.wrap, IntKind.signed, IntKind.bits]
  simp
  omega
def madeA (ms : List Nat) : List An := ⟨false, 0, []⟩ :: ms.map fun _ => ⟨true, 0, []⟩
theorem set_last {α : Type} (l : List α) (x y : α) : (l ++ [x]).set l.length y = l ++ [y] := by
  rw [List.set_append_right _ _ (Nat.le_refl _), Nat.sub_self]; rfl
theorem runs_made (σ : List Arr) (on : Nat) (hσ : σ.length = on) (hon : on ≤ 100) (ms : List Nat) (hn : ms.length ≤ 900) : Runs σ (madeL on ms) (madeA ms) (σ ++ [.sp (madeP ms ms.length)]) := by
  have h : ∀ i, i ≤ ms.length → Runs (σ ++ [.sp []]) ((ms.take i).map (mk on)) ((ms.take i).map fun _ => ⟨true, 0, []⟩) (σ ++ [.sp (madeP ms i)]) := by
    intro i
    induction i with
    | zero => intro _; simpa [madeP] using Runs.nil (σ ++ [.sp []])
    | succ i ih =>
      intro hi
      have h1 := ih (Nat.le_of_succ_le hi)
      have hok := (madeP_ok ms i (Nat.le_of_succ_le hi)).1
      have hs : SOk (madeP ms i) := hok.sok (by omega)
      have h2 := does_set (σ ++ [.sp (madeP ms i)]) (mk on (ms.getD i 0)) (madeP ms i) rfl (by show (σ ++ [.sp (madeP ms i)])[on]? = _; rw [← hσ]; simp) hs (by show ms.getD i 0 % 1152921504606846976 < _; omega)
      have e3 : (σ ++ [Arr.sp (madeP ms i)]).set (mk on (ms.getD i 0)).on (.sp (setB (madeP ms i) (mk on (ms.getD i 0)).k)) = σ ++ [.sp (madeP ms (i + 1))] := by
        rw [madeP_succ ms i hi]
        show (σ ++ [Arr.sp (madeP ms i)]).set on _ = _
        rw [← hσ]
        exact set_last _ _ _
      rw [e3] at h2
      have h3 := h1.append (Runs.one (by simp; omega) h2)
      rw [List.take_succ_eq_append_getElem hi, List.map_append, List.map_append]
      have e4 : ms.getD i 0 = ms[i] := by rw [List.getD_eq_getElem?_getD, List.getElem?_eq_getElem hi]; rfl
      rw [e4] at h3
      exact h3
  have h0 := h ms.length (Nat.le_refl _)
  rw [List.take_length] at h0
  exact (Runs.one (by omega) (does_new σ first2 rfl)).append h0
theorem madeL_len (on : Nat) (ms : List Nat) : (madeL on ms).length = ms.length + 1 := by simp [madeL]
theorem madeA_len (ms : List Nat) : (madeA ms).length = ms.length + 1 := by simp [madeA]

theorem flatP_at (ps : Ps) : ∀ i, i < ps.length → (flatP ps).getD (2 * i) 0 = (ps.getD i (0, 0)).1 ∧ (flatP ps).getD (2 * i + 1) 0 = (ps.getD i (0, 0)).2 := by
  induction ps with
  | nil => intro i hi; simp at hi
  | cons q ps ih =>
    intro i hi
    have e : flatP (q :: ps) = q.1 :: q.2 :: flatP ps := rfl
    rw [e]
    cases i with
    | zero => exact ⟨rfl, rfl⟩
    | succ i =>
      have := ih i (by simpa using hi)
      rw [show 2 * (i + 1) = 2 * i + 1 + 1 by omega, show 2 * i + 1 + 1 + 1 = 2 * i + 1 + 1 + 1 from rfl]
      simpa using this
theorem asc_at {ps : Ps} (h : Ok ps) (i : Nat) (hi : i + 1 < ps.length) : (ps.getD i (0, 0)).1 < (ps.getD (i + 1) (0, 0)).1 := by
  have h1 := List.pairwise_iff_getElem.1 h.1 i (i + 1) (by simpa using (by omega : i < ps.length)) (by simpa using hi) (by omega)
  rw [List.getElem_map, List.getElem_map] at h1
  rw [List.getD_eq_getElem?_getD, List.getD_eq_getElem?_getD, List.getElem?_eq_getElem hi, List.getElem?_eq_getElem (by omega : i < ps.length)]
  exact h1
def WordsRel (ps : Ps) (w5 : World) (k : Nat) (so idx : Value) (wr : World) : Prop :=
  ∃ (i : Nat) (p : Option Addr) (m cc : Nat), so = .slice p m cc ∧ idx = .int .i64 ((2 * i : Nat) : Int) ∧ i + k = ps.length ∧ wr.ownsRow w5.heap.size 30 1 (.slice p m cc) m (u64s (flatP (ps.take i))) ∧ Below w5.heap.size w5 wr

set_option maxRecDepth 100000 in
set_option maxHeartbeats 4000000 in
theorem bawords_sp (sz : Int) (v : Value) (xs : List Nat) (w : World) (hv : Sl w v (u64s xs)) (hb : ∀ x ∈ xs, x < 18446744073709551616) (h0 : 0 < xs.length) :
    Calls Try.prog 13 #[.bool false, .int .u16 sz, v] w fun e w' => e = .returned (.bool true) ∧ Below w.heap.size w w' := by
  obtain ⟨a0, L, cap, hve, hl, hc, hm, -⟩ := id hv
  rw [u64s_len] at hl
  have t0 : ((L : Int) == 0) = false := by rw [beq_eq_false_iff_ne]; omega
  have HV := Lib.hid hv
  have HB := Lib.hid hb
  rw [hve]
  have HVE := Lib.hid hve
  clear hv hb hl hc hm hve
  go_enter Try.func13, Try.ntmps13
  go_wp2_with fail
  have hmade := made_sp sz v xs 0 w HV.out HB.out (by decide)
  rw [HVE.out] at hmade
  refine hmade.mono ?_
  clear hmade
  rintro e w1 ⟨pa, ca, sv, rfl, ho, hu, hb1⟩
  obtain ⟨ms, hms⟩ : ∃ ms, xs.take 40 = ms := ⟨_, rfl⟩
  rw [hms] at ho hu ⊢
  obtain ⟨n, hn⟩ : ∃ n, ms.length = n := ⟨_, rfl⟩
  rw [hn] at ho hu ⊢
  have hn40 : n ≤ 40 := by rw [← hn, ← hms, List.length_take]; omega
  obtain ⟨ps, hps⟩ : ∃ ps, madeP ms n = ps := ⟨_, rfl⟩
  have hpok := madeP_ok ms n (by omega)
  rw [hps] at hu hpok
  obtain ⟨av, cv, hve, -⟩ := hu.shape
  subst hve
  have HO := Lib.hid ho
  have HU := Lib.hid hu
  have HB1 := Lib.hid hb1
  have HMS := Lib.hid hms
  have HN := Lib.hid hn
  have HPS := Lib.hid hps
  have HPK := Lib.hid hpok
  have hsz := hb1.size
  clear ho hu hb1 hms hn hps hpok
  have hrw := rw_new ((w1.alloc (.cells #[.bool false, .int .u64 0, .slice av (nums ps).length cv] 34))) 32 #[.int .i64 17, .int .i64 0, .int .i64 0, .int .u64 0, .int .i64 0, .bool false, .int .i64 10, .int .i64 0, .int .i64 0, .int .u64 0, .int .i64 0, .bool false] [stpRow stp17, stpRow stp10] (S := 6) (by intro r hr; simp at hr; rcases hr with rfl | rfl <;> rfl) rfl 2 rfl (by decide)
  rw [World.size_alloc] at hrw
  have HRW := Lib.hid hrw
  have hone : ∀ u ∈ ([stpRow stp17, stpRow stp10] : List (List Value)).flatten, u.oneCell' = true := by intro u hu; simp [stpRow, stp17, stp10] at hu; rcases hu with rfl | rfl | rfl | rfl | rfl | rfl | rfl | rfl | rfl | rfl | rfl | rfl <;> rfl
  have HON := Lib.hid hone
  have hl6 : ∀ r ∈ ([stpRow stp17, stpRow stp10] : List (List Value)), r.length = 6 := by intro r hr; simp at hr; rcases hr with rfl | rfl <;> rfl
  have HL6 := Lib.hid hl6
  clear hrw hone hl6
  go_wp2_with (at_builtin; refine wpList_apRw rfl _ _ 39 rfl w.heap.size 6 32 (.agg #[.int .i64 0, .int .i64 0, .int .i64 0, .int .u64 0, .int .i64 0, .bool false]) 48 Try.underlying39 info_stepm rfl (by decide) (.slice pa (n + 1) ca) (n + 1) ((madeL 0 ms).map stpRow).flatten rfl ((HO.out.alloc _).alloc _) (.slice (some ⟨w1.heap.size + 1, 0, none⟩) 2 2) [stpRow stp17, stpRow stp10] rfl HRW.out HL6.out HON.out (by unfold maxLen; simp; omega) (by simp; omega) (by rw [World.size_alloc, World.size_alloc]; omega) ?_; intro p2 m2 cap2 w2 hown2 hg2 hb2; have HO2 := Lib.hid hown2; have HG2 := Lib.hid hg2; have HB2 := Lib.hid hb2; clear hown2 hg2 hb2)
  have hrow2 : Rw 6 w2 (.slice p2 m2 cap2) ((madeL 0 ms ++ [stp17, stp10]).map stpRow) := by
    have h := HO2.out
    rw [← List.flatten_append] at h
    exact Rw.of_owns (S := 6) (by intro r hr; obtain ⟨s, _, rfl⟩ := List.mem_map.1 hr; rfl) (by decide) (by rw [List.map_append]; exact h)
  have hml : ms.length = n := HN.out
  have hruns : Runs [] (madeL 0 ms ++ [stp17, stp10]) (madeA ms ++ [⟨false, 0, flatP ps⟩, ⟨false, (nums ps).length, []⟩]) [.sp ps] := by
    have h1 := runs_made [] 0 rfl (by decide) ms (by omega)
    rw [hml, HPS.out] at h1
    have hs : SOk ps := HPK.out.1.sok (by omega)
    exact h1.append ((Runs.one (by simp) (does_blocks [.sp ps] stp17 ps rfl rfl hs)).append (Runs.one (by simp) (does_count [.sp ps] stp10 ps rfl rfl hs)))
  have hans := answers_any _ _ _ _ w2 hrow2 hruns (by rw [List.length_append, madeL_len]; simp; omega) (by rw [List.length_append, madeL_len]; omega)
  have hN : (madeL 0 ms ++ [stp17, stp10]).length = n + 3 := by rw [List.length_append, madeL_len, hml]; rfl
  rw [hN] at hans
  obtain ⟨N, hN3⟩ : ∃ N, n + 3 = N := ⟨_, rfl⟩
  rw [hN3] at hans
  refine hans.mono ?_
  clear hans hrow2 hruns hN
  rintro e w3 ⟨pa3, ca3, rows, rfl, ho3, hl3, hr3, hs3, hb3⟩
  obtain ⟨g3, rfl, hcell⟩ := said_cells ho3 hl3 hr3 hs3 (by omega)
  obtain ⟨v1, m1, c1, k0, k1, k2, k3, hnum⟩ := hcell (n + 1) ⟨false, 0, flatP ps⟩ (by rw [List.getElem?_append_right (by rw [madeA_len]; omega), madeA_len, hml, Nat.sub_self]; rfl)
  obtain ⟨v4, m4, c4, -, y1, -, -, -⟩ := hcell (n + 2) ⟨false, (nums ps).length, []⟩ (by rw [List.getElem?_append_right (by rw [madeA_len]; omega), madeA_len, hml, show n + 2 - (n + 1) = 1 by omega]; rfl)
  have hbx2 : Blk w2 w1.heap.size 34 #[.bool false, .int .u64 0, .slice av (nums ps).length cv] := by
    have hx := (Blk.new w1 34 #[.bool false, .int .u64 0, .slice av (nums ps).length cv]).alloc (.cells #[.int .i64 17, .int .i64 0, .int .i64 0, .int .u64 0, .int .i64 0, .bool false, .int .i64 10, .int .i64 0, .int .i64 0, .int .u64 0, .int .i64 0, .bool false] 32)
    exact hx.grown HG2.out (fun e => row_blk ((HO.out.alloc _).alloc _) hx (by decide) e)
  have hbx3 : Blk w3 w1.heap.size 34 #[.bool false, .int .u64 0, .slice av (nums ps).length cv] := (hb3.block _ hbx2.lt).trans hbx2
  have hu2 : Us w2 (.slice av (nums ps).length cv) (nums ps) := by
    have hx := (own_below (own_below HU.out ((Below.refl _ _).alloc (Nat.le_refl _) (.cells #[.bool false, .int .u64 0, .slice av (nums ps).length cv] 34))) ((Below.refl _ _).alloc (Nat.le_refl _) (.cells #[.int .i64 17, .int .i64 0, .int .i64 0, .int .u64 0, .int .i64 0, .bool false, .int .i64 10, .int .i64 0, .int .i64 0, .int .u64 0, .int .i64 0, .bool false] 32)))
    have hfr : Fr (obl (.slice pa (n + 1) ca)) (obl (.slice pa (n + 1) ca)) _ w2 := Fr.of_grown (v' := .slice pa (n + 1) ca) HG2.out (fun k hk => .inl hk)
    exact hfr.own hx (row_row hx ((HO.out.alloc _).alloc _) (by decide))
  have hu3 : Us w3 (.slice av (nums ps).length cv) (nums ps) := hu2.below hb3 rfl
  have hB3 : Below w.heap.size w w3 := (((HB1.out.alloc hsz _).alloc (by rw [World.size_alloc]; omega) _).trans HB2.out).trans (hb3.mono (by have := HB2.out.size; rw [World.size_alloc, World.size_alloc] at this; omega))
  obtain ⟨q, hq⟩ : ∃ q, w1.heap.size = q := ⟨_, rfl⟩
  rw [hq] at hbx3 ⊢
  have hm1 : m1 = 2 * ps.length := by
    have h := hnum.1
    rw [u64s_len, flatP_len, Nat.mul_one] at h; omega
  have HNUM := Lib.hid hnum
  have HBX := Lib.hid hbx3
  have HU3 := Lib.hid hu3
  have HB3 := Lib.hid hB3
  have HM1 := Lib.hid hm1
  have HN3 := Lib.hid hN3
  have HML := Lib.hid hml
  have hk2 : w3.cell? ⟨g3, (n + 1) * 4 + 2, none⟩ = some (.slice v1 m1 c1) := k2
  have hi1 : IntKind.i64.wrap ((N : Int) - 2) = ((n + 1 : Nat) : Int) := by rw [IntWalk.i64_in _ (by omega)]; omega
  have hN4 : n + 1 < N := by omega
  have hN0 : ((N : Int) == 0) = false := by rw [beq_eq_false_iff_ne]; omega
  have hgs := World.block_lt_of_cell? _ _ k2
  clear ho3 hl3 hr3 hs3 hcell hnum hbx2 hbx3 hu2 hu3 hB3 hb3 hm1 k0 k1 k3 hN3 hml hq HO2 HG2 HB2 HRW HON HL6
  go_wp2_with fail
  obtain ⟨a1, c1', hsh, hcl⟩ := (Us.of HNUM.out).shape
  have hPl := HPK.out.1.len
  obtain ⟨P, hP⟩ : ∃ P, ps.length = P := ⟨_, rfl⟩
  rw [hP] at hPl
  rw [flatP_len, hP] at hcl
  have HM2 : Hid (m1 = 2 * P) := Lib.hid (hP ▸ HM1.out)
  have HP := Lib.hid hP
  have ha1 : v1 = a1 := by injection hsh
  subst ha1
  have HCL := Lib.hid hcl
  have hm1 : m1 = 2 * P := HM2.out
  clear hsh hcl hP hk2 hi1 hN4 hN0
  go_loopg [11, 12] P (fun k so idx wr => WordsRel ps w3 k so idx wr)
  case atStart => exact ⟨0, none, 0, 0, rfl, rfl, by rw [HP.out]; omega, World.ownsRow_nil _ _ _ _, Below.refl _ _⟩
  case round =>
    obtain ⟨i, p, m, cc, rfl, rfl, hik, hown, hbel⟩ := hrel
    rw [HP.out] at hik
    have hsz3 := hbel.size
    have hm : m = 2 * i := by
      have h := hown.1
      rw [u64s_len, flatP_len, List.length_take, HP.out, Nat.mul_one] at h; omega
    have HO5 := Lib.hid hown
    have HB5 := Lib.hid hbel
    have HMM := Lib.hid hm
    have hmle : m ≤ 200 := by omega
    clear hown hbel hm
    by_cases hi : i < P
    · cases gk with
      | zero => omega
      | succ k =>
        obtain ⟨gn, hgn, hcell⟩ := HCL.out (by omega)
        subst hgn
        have hfa := flatP_at ps i (by rw [HP.out]; exact hi)
        have d0 := hcell (2 * i) (by omega)
        have d1 := hcell (2 * i + 1) (by omega)
        rw [hfa.1] at d0
        rw [hfa.2] at d1
        have hnz : (ps.getD i (0, 0)).2 ≠ 0 := HPK.out.1.nz (ps.getD i (0, 0)) (by
          rw [List.getD_eq_getElem?_getD, List.getElem?_eq_getElem (by rw [HP.out]; exact hi)]; exact List.getElem_mem _)
        have hfl := flatP_succ ps i (by rw [HP.out]; exact hi)
        have hgl : gn < w3.heap.size := World.block_lt_of_cell? _ _ d0
        have hprev : 0 < i → ∃ X0 : Nat, wr.cell? ⟨gn, 2 * i - 2, none⟩ = some (.int .u64 (X0 : Int)) ∧ X0 < (ps.getD i (0, 0)).1 := fun h0 => by
          obtain ⟨j, rfl⟩ : ∃ j, i = j + 1 := ⟨i - 1, by omega⟩
          have h1 := hcell (2 * j) (by omega)
          rw [(flatP_at ps j (by rw [HP.out]; omega)).1] at h1
          refine ⟨_, (HB5.out.cell (p := ⟨gn, 2 * (j + 1) - 2, none⟩) hgl).trans (by rw [show 2 * (j + 1) - 2 = 2 * j by omega]; exact h1), asc_at HPK.out.1.ok j (by rw [HP.out]; exact hi)⟩
        rw [← HB5.out.cell (p := ⟨gn, 2 * i, none⟩) hgl] at d0
        rw [← HB5.out.cell (p := ⟨gn, 2 * i + 1, none⟩) hgl] at d1
        obtain ⟨X, hX⟩ : ∃ X, (ps.getD i (0, 0)).1 = X := ⟨_, rfl⟩
        obtain ⟨Y, hY⟩ : ∃ Y, (ps.getD i (0, 0)).2 = Y := ⟨_, rfl⟩
        rw [hX] at d0 hfl hprev
        rw [hY] at d1 hfl hnz
        obtain ⟨I, hI⟩ : ∃ I, 2 * i = I := ⟨_, rfl⟩
        rw [hI] at d0 d1 hprev HMM ⊢
        have HI := Lib.hid hI
        have HFL := Lib.hid hfl
        have hIm : I + 1 < m1 := by omega
        have hIm2 : I < m1 := by omega
        have hI0 : (0 : Int) ≤ (I : Int) := by omega
        have hI1 : (I : Int) < (m1 : Int) := by omega
        have hI2 : (I : Int) + 1 < (m1 : Int) := by omega
        have hI3 : (0 : Int) ≤ (I : Int) + 1 := by omega
        have hI4 : I ≤ 200 := by omega
        have hm400 : m1 ≤ 200 := by omega
        have hny : ((Y : Int) != 0) = true := by rw [bne_iff_ne]; omega
        have HPV := Lib.hid hprev
        have HX := Lib.hid hX
        have HY := Lib.hid hY
        clear hfa hcell hfl hprev hX hY hI hnz
        by_cases h0 : 0 < i
        · obtain ⟨X0, d2, hlt⟩ := HPV.out h0
          have hg1 : decide ((1 : Int) < (I : Int)) = true := by have := HI.out; rw [decide_eq_true_iff]; omega
          have hle : decide (X ≤ X0) = false := by rw [decide_eq_false_iff_not]; omega
          obtain ⟨J, hJ⟩ : ∃ J, I - 2 = J := ⟨_, rfl⟩
          have hI22 : 2 ≤ I := by have := HI.out; omega
          rw [hJ] at d2
          have j1 : IntKind.i64.wrap ((I : Int) - 2) = (J : Int) := by rw [IntWalk.i64_in _ (by omega)]; omega
          have j2 : (J : Int) < (m1 : Int) := by omega
          have j3 : (0 : Int) ≤ (J : Int) := by omega
          have j4 : J < m1 := by omega
          clear hJ hlt hm1
          go_wp2_with fail
          go_quiet (fail)
          go_wp2_with fail
          clear hg1 hle j1 j2 j3 j4 d2
          obtain ⟨w4, hw4⟩ : ∃ w4, wr.drewN nq = w4 := ⟨_, rfl⟩
          have e0 : w4.cell? ⟨gn, I, none⟩ = some (.int .u64 (X : Int)) := hw4 ▸ d0
          have e1 : w4.cell? ⟨gn, I + 1, none⟩ = some (.int .u64 (Y : Int)) := hw4 ▸ d1
          have ho4 : w4.ownsRow w3.heap.size 30 1 (.slice p m cc) m (u64s (flatP (ps.take i))) := hw4 ▸ HO5.out
          have hb4 : Below w3.heap.size w3 w4 := hw4 ▸ below_drewN HB5.out nq
          rw [hw4]
          have hsz4 := hb4.size
          have k1 : IntKind.i64.wrap ((I : Int) + 1) = (I : Int) + 1 := IntWalk.i64_in _ (by omega)
          have k2 : ((I : Int) + 1).toNat = I + 1 := by omega
          have HO6 := Lib.hid ho4
          have HB6 := Lib.hid hb4
          have hmx : m + (u64s [X, Y]).length ≤ maxLen := by rw [u64s_len]; unfold maxLen; simp; omega
          have hmy : (m + (u64s [X, Y]).length) * 8 ≤ 140737488355328 := by rw [u64s_len]; simp; omega
          have HMX := Lib.hid hmx
          have HMY := Lib.hid hmy
          clear ho4 hb4 hw4 d0 d1 hmx hmy
          go_region_held3 (fun w' => w'.cell? ⟨gn, I, none⟩ = some (.int .u64 (X : Int)) ∧ w'.cell? ⟨gn, I + 1, none⟩ = some (.int .u64 (Y : Int))) (first | go_keep | trivial)
            (first
              | (refine step_apSl (by rfl) (.tmp 66) (.tmp 76) 23 23 (by rfl) w3.heap.size 30 30 (.int .u64 0) 8 Try.underlying23 Try.underlying23 info_u64 rfl (.slice p m cc) m (u64s (flatP (ps.take i))) (by go_simp) ?_ (.slice (some ⟨w4.heap.size, 0, none⟩) 2 2) (u64s [X, Y]) (by go_simp) ?_ (u64s_one _) HMX.out HMY.out ?_ ?_
                 focus (first | exact HO6.out.alloc _ | exact row_drew (HO6.out.alloc _); done)
                 focus (first | exact sl_two _ _ _ _ | exact sl_twoD _ _ _ _; done)
                 focus (refine Nat.le_trans hsz4 ?_; simp; done)
                 intro p7 m7 cap7 w7 hown7 hg7 hb7
                 have HO7 := Lib.hid hown7
                 have HB7 : Hid (Below w3.heap.size w3 w7) := Lib.hid (HB6.out.trans (Below.trans (by (repeat (first | with_reducible exact Below.refl _ _ | with_reducible refine Below.drew ?_ | with_reducible exact (Below.refl _ _).alloc hsz4 _))) hb7))
                 have q0 : w7.cell? ⟨gn, I, none⟩ = some (.int .u64 (X : Int)) := (HB7.out.cell (p := ⟨gn, I, none⟩) hgl).trans ((HB6.out.cell (p := ⟨gn, I, none⟩) hgl).symm.trans e0)
                 have q1 : w7.cell? ⟨gn, I + 1, none⟩ = some (.int .u64 (Y : Int)) := (HB7.out.cell (p := ⟨gn, I + 1, none⟩) hgl).trans ((HB6.out.cell (p := ⟨gn, I + 1, none⟩) hgl).symm.trans e1)
                 clear hown7 hg7 hb7)
              | fail)
          go_wp2_with fail
          go_roundg k
          case measure => omega
          case rel =>
            have ho7 := HO7.out
            have hm7 : m7 = m + 2 := by
              rcases ho7.2 with ⟨_, e2⟩ | ⟨g1, cap, cur, e, _⟩
              · simp [u64s_len] at e2
              · injection e
            refine ⟨i + 1, p7, m7, cap7, rfl, ?_, ?_, ?_, HB7.out⟩
            · rw [← HI.out]; go_num
            · rw [HP.out]; omega
            · rw [HFL.out, u64s_append]
              rw [u64s_len] at ho7
              rw [hm7] at ho7 ⊢
              exact ho7
        · have hg1 : decide ((1 : Int) < (I : Int)) = false := by have := HI.out; rw [decide_eq_false_iff_not]; omega
          clear hm1
          go_wp2_with fail
          go_quiet (fail)
          go_wp2_with fail
          clear hg1
          obtain ⟨w4, hw4⟩ : ∃ w4, wr.drewN nq = w4 := ⟨_, rfl⟩
          have e0 : w4.cell? ⟨gn, I, none⟩ = some (.int .u64 (X : Int)) := hw4 ▸ d0
          have e1 : w4.cell? ⟨gn, I + 1, none⟩ = some (.int .u64 (Y : Int)) := hw4 ▸ d1
          have ho4 : w4.ownsRow w3.heap.size 30 1 (.slice p m cc) m (u64s (flatP (ps.take i))) := hw4 ▸ HO5.out
          have hb4 : Below w3.heap.size w3 w4 := hw4 ▸ below_drewN HB5.out nq
          rw [hw4]
          have hsz4 := hb4.size
          have k1 : IntKind.i64.wrap ((I : Int) + 1) = (I : Int) + 1 := IntWalk.i64_in _ (by omega)
          have k2 : ((I : Int) + 1).toNat = I + 1 := by omega
          have HO6 := Lib.hid ho4
          have HB6 := Lib.hid hb4
          have hmx : m + (u64s [X, Y]).length ≤ maxLen := by rw [u64s_len]; unfold maxLen; simp; omega
          have hmy : (m + (u64s [X, Y]).length) * 8 ≤ 140737488355328 := by rw [u64s_len]; simp; omega
          have HMX := Lib.hid hmx
          have HMY := Lib.hid hmy
          clear ho4 hb4 hw4 d0 d1 hmx hmy
          go_region_held3 (fun w' => w'.cell? ⟨gn, I, none⟩ = some (.int .u64 (X : Int)) ∧ w'.cell? ⟨gn, I + 1, none⟩ = some (.int .u64 (Y : Int))) (first | go_keep | trivial)
            (first
              | (refine step_apSl (by rfl) (.tmp 66) (.tmp 76) 23 23 (by rfl) w3.heap.size 30 30 (.int .u64 0) 8 Try.underlying23 Try.underlying23 info_u64 rfl (.slice p m cc) m (u64s (flatP (ps.take i))) (by go_simp) ?_ (.slice (some ⟨w4.heap.size, 0, none⟩) 2 2) (u64s [X, Y]) (by go_simp) ?_ (u64s_one _) HMX.out HMY.out ?_ ?_
                 focus (first | exact HO6.out.alloc _ | exact row_drew (HO6.out.alloc _); done)
                 focus (first | exact sl_two _ _ _ _ | exact sl_twoD _ _ _ _; done)
                 focus (refine Nat.le_trans hsz4 ?_; simp; done)
                 intro p7 m7 cap7 w7 hown7 hg7 hb7
                 have HO7 := Lib.hid hown7
                 have HB7 : Hid (Below w3.heap.size w3 w7) := Lib.hid (HB6.out.trans (Below.trans (by (repeat (first | with_reducible exact Below.refl _ _ | with_reducible refine Below.drew ?_ | with_reducible exact (Below.refl _ _).alloc hsz4 _))) hb7))
                 have q0 : w7.cell? ⟨gn, I, none⟩ = some (.int .u64 (X : Int)) := (HB7.out.cell (p := ⟨gn, I, none⟩) hgl).trans ((HB6.out.cell (p := ⟨gn, I, none⟩) hgl).symm.trans e0)
                 have q1 : w7.cell? ⟨gn, I + 1, none⟩ = some (.int .u64 (Y : Int)) := (HB7.out.cell (p := ⟨gn, I + 1, none⟩) hgl).trans ((HB6.out.cell (p := ⟨gn, I + 1, none⟩) hgl).symm.trans e1)
                 clear hown7 hg7 hb7)
              | fail)
          go_wp2_with fail
          go_roundg k
          case measure => omega
          case rel =>
            have ho7 := HO7.out
            have hm7 : m7 = m + 2 := by
              rcases ho7.2 with ⟨_, e2⟩ | ⟨g1, cap, cur, e, _⟩
              · simp [u64s_len] at e2
              · injection e
            refine ⟨i + 1, p7, m7, cap7, rfl, ?_, ?_, ?_, HB7.out⟩
            · rw [← HI.out]; go_num
            · rw [HP.out]; omega
            · rw [HFL.out, u64s_append]
              rw [u64s_len] at ho7
              rw [hm7] at ho7 ⊢
              exact ho7
    · obtain rfl : i = P := by omega
      clear HCL k2
      have hD : (nums ps).length ≤ 100000 := by have := cnt_le ps; rw [HP.out] at this; omega
      have hND : ∀ x ∈ nums ps, x < 18446744073709551616 := fun x hx => by
        have := nums_bd HPK.out.2 x hx; omega
      have husr : Us wr (.slice av (nums ps).length cv) (nums ps) := own_below HU3.out HB5.out
      have q2 : wr.cell? ⟨q, 2, none⟩ = some (.slice av (nums ps).length cv) := (HB5.out.cell (p := ⟨q, 2, none⟩) HBX.out.lt).trans (HBX.out.cell 2 rfl)
      have y2 : wr.cell? ⟨g3, (n + 2) * 4 + 1, none⟩ = some (.int .u64 ((nums ps).length : Int)) := (HB5.out.cell (p := ⟨g3, (n + 2) * 4 + 1, none⟩) hgs).trans y1
      have hon : Us wr (.slice p m cc) (flatP ps) := by
        have h := HO5.out
        rw [List.take_of_length_le (by rw [HP.out]; exact Nat.le_refl _)] at h
        exact Us.of h
      have hww : words (nums ps) = ps := words_nums HPK.out.1.ok HPK.out.1.nz
      have hbk : ∀ w', Below wr.heap.size wr w' → Calls Try.prog 21 #[.slice av (nums ps).length cv] w' fun e w'' => ∃ v', e = .returned v' ∧ Us w'' v' (flatP ps) ∧ Below wr.heap.size wr w'' := fun w' hbw =>
        (bablocks_any (.slice av (nums ps).length cv) (nums ps) w' (husr.below hbw rfl) hD (asc_nums HPK.out.1.ok) hND).mono fun e w'' ⟨v', h1, h2, h3⟩ => ⟨v', h1, hww ▸ h2, hbw.trans (h3.mono hbw.size)⟩
      have hfl : (flatP ps).length ≤ 100000 := by rw [flatP_len, HP.out]; omega
      obtain ⟨D, hDe⟩ : ∃ D, (nums ps).length = D := ⟨_, rfl⟩
      rw [hDe] at q2 y2 hbk hD ⊢
      obtain ⟨T, hT⟩ : ∃ T, n + 2 = T := ⟨_, rfl⟩
      rw [hT] at y2
      have HH := Lib.hid hbk
      have HON := Lib.hid hon
      have HFLL := Lib.hid hfl
      have qlt : q < wr.heap.size := World.block_lt_of_cell? wr _ q2
      have glt : g3 < wr.heap.size := World.block_lt_of_cell? wr _ y2
      have hbself : Below wr.heap.size wr wr := Below.refl _ _
      have hmod : (m1 : Int).tmod 2 = 0 := by rw [Int.tmod_eq_emod_of_nonneg (by omega)]; omega
      have hn1 : IntKind.i64.wrap ((N : Int) - 1) = (T : Int) := by have := HN3.out; rw [IntWalk.i64_in _ (by omega)]; omega
      have hn2 : T < N := by have := HN3.out; omega
      have hn3 : (T : Int) < (N : Int) := by omega
      have hn4 : (0 : Int) ≤ (T : Int) := by omega
      have hdd : decide (2 * (i : Int) + 1 < (m1 : Int)) = false := by rw [decide_eq_false_iff_not]; omega
      have hwD : IntKind.u64.wrap (D : Int) = (D : Int) := u64wd D (by omega)
      clear hT y1 hon hww hbk hfl husr hDe hND hi hik hm1
      go_wp2_with fail
      go_region_held3 (fun w' => Below wr.heap.size wr w' ∧ w'.cell? ⟨q, 2, none⟩ = some (.slice av D cv) ∧ w'.cell? ⟨g3, T * 4 + 1, none⟩ = some (.int .u64 (D : Int)))
        ((first | exact ⟨hbself.drew, q2, y2⟩ | exact ⟨hb6, q6, y6⟩ | exact ⟨hb5, q5, y5⟩))
        (first
          | (go_at_call 21; (with_reducible refine Calls.mono (HH.out _ (by first | assumption | exact hbself.drew)) ?_); rintro e w5 ⟨v5, rfl, hu5, hb5⟩; have q5 := (hb5.cell (p := ⟨q, 2, none⟩) qlt).trans q2; have y5 := (hb5.cell (p := ⟨g3, T * 4 + 1, none⟩) glt).trans y2; have hsm := same_any (.slice p m cc) v5 (flatP ps) (flatP ps) w5 (HON.out.below hb5 rfl) hu5 HFLL.out HFLL.out; rw [decide_eq_true rfl] at hsm; have HS := Lib.hid hsm; clear hsm hu5)
          | (go_at_call 9; (with_reducible refine Calls.mono HS.out ?_); rintro e w6 ⟨rfl, nq, rfl⟩; have hb6 := below_drewN hb5 nq; have q6 : (w5.drewN nq).cell? ⟨q, 2, none⟩ = some (.slice av D cv) := q5; have y6 : (w5.drewN nq).cell? ⟨g3, T * 4 + 1, none⟩ = some (.int .u64 (D : Int)) := y5)
          | fail)
      go_wp2_with fail
      go_ret
      exact ⟨rfl, HB3.out.trans ((HB5.out.trans (hb6.mono hsz3)).mono HB3.out.size)⟩

set_option maxRecDepth 100000 in
theorem bawords_nil (sz : Int) (a : Option Addr) (cap : Nat) (w : World) :
    Calls Try.prog 13 #[.bool false, .int .u16 sz, .slice a 0 cap] w fun e w' => e = .returned (.bool true) ∧ Below w.heap.size w w' := by
  go_enter Try.func13, Try.ntmps13
  go_wp2_with fail
  go_ret
  exact ⟨rfl, Below.refl _ _⟩

set_option maxRecDepth 100000 in
theorem law_bablocks (v : Value) (w : World) (hv : IsInts .u64 w v) :
    Calls Try.prog 6 #[v] w fun e w' => e = .returned (.bool true) ∧ Below w.heap.size w w' := by
  obtain ⟨ns, hs, hb⟩ := nats_of hv
  have hw : Calls Try.prog 13 #[.bool false, .int .u16 0, v] w fun e w' => e = .returned (.bool true) ∧ Below w.heap.size w w' := by
    by_cases h0 : 0 < ns.length
    · exact bawords_sp 0 v ns w hs hb h0
    · obtain ⟨a, n, cap, rfl, hl, _⟩ := hs
      rw [u64s_len] at hl
      obtain rfl : n = 0 := by omega
      exact bawords_nil 0 a cap w
  have HW := Lib.hid hw
  obtain ⟨a, n, cap, rfl, hl, hc, hm, hr⟩ := hs
  clear hv hb hl hr hw
  have hLm : (n : Int) ≤ 9223372036854775807 := by unfold maxLen at hm; omega
  clear hm hc
  by_cases hz : (2147483647 : Int) < (n : Int)
  · go_enter Try.func6, Try.ntmps6
    go_wp2_with fail
    go_ret
    exact ⟨rfl, Below.refl _ _⟩
  · go_enter Try.func6, Try.ntmps6
    go_wp2_with fail
    refine HW.out.mono ?_
    rintro e w' ⟨rfl, hb⟩
    go_wp2_with fail
    go_ret
    exact ⟨rfl, hb⟩
end Go.Proofs.Ytjnefgmoobbniaa
