/- Walks of the copy of a dense array and of nand of a dense array with a sparse one. -/
import Derived.Test.YtjnefgmoobbniaaGreatBaNandSD
import Derived.Laws.CopyOwn
namespace Go.Proofs.YtjnefgmoobbniaaGreat
set_option linter.unusedVariables false
open Go.RowKit Bam

theorem Ok.take {ps : Ps} (h : Ok ps) (n : Nat) : Ok (ps.take n) := ⟨List.Pairwise.sublist ((List.take_sublist n ps).map _) h.1, fun q hq => h.2 q (List.mem_of_mem_take hq)⟩
theorem keys_lt {ps : Ps} (h : Ok ps) {a b : Nat} (hab : a < b) (hb : b < ps.length) : (ps.getD a (0, 0)).1 < (ps.getD b (0, 0)).1 := by
  have hp := List.pairwise_iff_getElem.1 h.1 a b (by rw [List.length_map]; omega) (by rw [List.length_map]; omega) hab
  rw [List.getElem_map, List.getElem_map] at hp
  rw [List.getD_eq_getElem?_getD, List.getD_eq_getElem?_getD, List.getElem?_eq_getElem (by omega), List.getElem?_eq_getElem hb]
  exact hp
theorem look_take_succ {ps : Ps} (h : Ok ps) {i : Nat} (hi : i < ps.length) {X B : Nat} (e : ps.getD i (0, 0) = (X, B)) (k : Nat) : Bam.look (ps.take (i + 1)) k = if k = X then B else Bam.look (ps.take i) k := by
  have e2 : ps[i] = (X, B) := by rw [List.getD_eq_getElem?_getD, List.getElem?_eq_getElem hi] at e; exact e
  by_cases hk : k = X
  · rw [if_pos hk, hk]
    refine look_mem (Ok.take h (i + 1)) ?_
    rw [List.take_succ_eq_append_getElem hi, e2]
    exact List.mem_append.2 (.inr (List.mem_singleton.2 rfl))
  · rw [if_neg hk]
    have hok := Ok.take h (i + 1)
    rw [List.take_succ_eq_append_getElem hi, e2] at hok ⊢
    rw [look_append k hok]
    have : Bam.look [(X, B)] k = 0 := look_none fun q hq => by rw [List.mem_singleton.1 hq]; exact fun e => hk e.symm
    rw [this, Nat.or_zero]
theorem look_take_low {ps : Ps} (h : Ok ps) {i X : Nat} (hX : ∀ b, i ≤ b → b < ps.length → X ≤ (ps.getD b (0, 0)).1) {k : Nat} (hk : k < X) : Bam.look (ps.take i) k = Bam.look ps k := by
  have hok : Ok (ps.take i ++ ps.drop i) := by rw [List.take_append_drop]; exact h
  have e := look_append k hok
  rw [List.take_append_drop] at e
  rw [e, look_none (ps := ps.drop i) fun q hq => ?_, Nat.or_zero]
  obtain ⟨t, ht, e⟩ := List.getElem_of_mem hq
  rw [List.getElem_drop] at e
  rw [List.length_drop] at ht
  have h1 := hX (i + t) (by omega) (by omega)
  rw [List.getD_eq_getElem?_getD, List.getElem?_eq_getElem (by omega)] at h1
  simp only [Option.getD_some] at h1
  rw [e] at h1
  omega

set_option maxRecDepth 100000 in
theorem copyde_any (p : Nat) (F W : List Nat) (w : World) (h : DeW w p F W) (hn : W.length ≤ 9000) :
    Calls Tryz.prog 93 #[.pointer (some ⟨p, 0, none⟩)] w fun e w' =>
      ∃ (r : Nat) (H : List Nat), e = .returned (.iface 80 (.pointer (some ⟨r, 0, none⟩))) ∧ DeW w' r H W ∧ (∀ x ∈ H, w.heap.size ≤ x) ∧ Below w.heap.size w w' := by
  obtain ⟨a, c, hb, hu, hF⟩ := (show DeAt w p F W (loW W) (hiW W) (anyW W) from h)
  have c0 := hb.cell 0 rfl
  have c1 := hb.cell 1 rfl
  have c2 := hb.cell 2 rfl
  have c3 := hb.cell 3 rfl
  have hsl : Sl w (.slice a W.length c) (u64s W) := Sl.of_owns hu
  have HE : Hid (∀ w1 : World, w1.ownsRow w.heap.size 74 1 (.slice (some ⟨w.heap.size, 0, none⟩) W.length W.length) W.length (u64s W) → Below w.heap.size w w1 →
      ∃ H, DeW (w1.alloc (.cells #[.slice (some ⟨w.heap.size, 0, none⟩) W.length W.length, .int .u64 (loW W : Int), .int .u64 (hiW W : Int), .bool (anyW W)] 90)) w1.heap.size H W ∧ ∀ x ∈ H, w.heap.size ≤ x) := Lib.hid fun w1 ho hb => by
    refine ⟨_, ⟨some ⟨w.heap.size, 0, none⟩, W.length, Blk.new w1 _ _, Ue.of (ho.alloc _), rfl⟩, fun x hx => ?_⟩
    rcases List.mem_cons.1 hx with e | e
    · rw [e]; exact hb.size
    · exact (own_lt ho x e).2
  have HR : Hid ((u64s W) ++ (List.replicate W.length (Value.int .u64 0)).drop (u64s W).length = u64s W) := Lib.hid (by rw [u64s_len, List.drop_eq_nil_of_le (by simp), List.append_nil])
  have HUL : Hid ((u64s W).length = W.length) := Lib.hid (u64s_len W)
  obtain ⟨n, hN⟩ : ∃ n, W.length = n := ⟨_, rfl⟩
  obtain ⟨lo, hlo⟩ : ∃ n, loW W = n := ⟨_, rfl⟩
  obtain ⟨hi, hhi⟩ : ∃ n, hiW W = n := ⟨_, rfl⟩
  obtain ⟨any, hany⟩ : ∃ n, anyW W = n := ⟨_, rfl⟩
  rw [hN] at c0 hsl hn HE HR HUL
  rw [hlo] at c1 HE
  rw [hhi] at c2 HE
  rw [hany] at c3 HE
  have HSL := Lib.hid hsl
  have hp := World.block_lt_of_cell? w _ c0
  clear hb hu hF h hN hlo hhi hany hsl
  go_enter Tryz.func93, Tryz.ntmps93
  go_wp2_with (first
    | (at_make; refine wpList_make1 rfl _ _ 91 rfl w.heap.size 74 (.int .u64 0) 8 Tryz.underlying91 info_blk rfl _ _ _ _ n rfl rfl rfl rfl (by omega) (by unfold maxLen; omega) (Nat.le_refl _) ?_; intro w1 hown1 hb1 hs1; have e0 := cell_below hb1 (Nat.le_refl _) c0; have HOW := Lib.hid hown1; have HB1 := Lib.hid hb1; have hsz1 := hb1.size; clear hown1 hb1 hs1)
    | (refine wpList_copySl rfl _ _ 91 88 rfl w.heap.size 74 (.int .u64 0) 8 Tryz.underlying91 info_blk w.heap.size n n (List.replicate n (.int .u64 0)) rfl HOW.out (.slice a n c) (u64s W) rfl (HSL.out.below rfl HB1.out) (by rw [HUL.out]; omega) (u64s_one _) ?_; intro w2 hown2 hg2 hb2; rw [HR.out] at hown2; have HOW2 := Lib.hid hown2; have HB2 := Lib.hid (HB1.out.trans hb2); have f0 := cell_below HB2.out (Nat.le_refl _) c0; have f1 := cell_below HB2.out (Nat.le_refl _) c1; have f2 := cell_below HB2.out (Nat.le_refl _) c2; have f3 := cell_below HB2.out (Nat.le_refl _) c3; clear hown2 hg2 hb2 e0 c0 c1 c2 c3))
  go_region
  all_goals
    go_wp2_with fail
    go_ret
    obtain ⟨H, hd, hf⟩ := HE.out _ HOW2.out HB2.out
    exact ⟨_, H, rfl, hd, hf, (HB2.out.alloc HB2.out.size _).drew⟩

/-- the words of W without the first i words of ps -/
def nds (ps : Ps) (W : List Nat) (m i : Nat) : List Nat := wordsOf m fun j => W.getD j 0 ^^^ (W.getD j 0 &&& Bam.look (ps.take i) j)
theorem nds_len (ps : Ps) (W : List Nat) (m i : Nat) : (nds ps W m i).length = m := wordsOf_len _ _
theorem nds_zero (ps : Ps) (W : List Nat) : nds ps W W.length 0 = W := by
  unfold nds
  conv => rhs; rw [← wordsOf_self W]
  unfold wordsOf
  refine List.map_congr_left fun j _ => ?_
  simp [Bam.look]
theorem nds_step {ps : Ps} (h : Ok ps) (W : List Nat) (m : Nat) {i X B R : Nat} (hi : i < ps.length) (e : ps.getD i (0, 0) = (X, B)) (hR : W.getD X 0 ^^^ (W.getD X 0 &&& B) = R) : (nds ps W m i).set X R = nds ps W m (i + 1) := by
  unfold nds
  rw [wordsOf_set]
  unfold wordsOf
  refine List.map_congr_left fun j _ => ?_
  show (if j = X then R else _) = _
  rw [look_take_succ h hi e j]
  by_cases hj : j = X
  · rw [if_pos hj, if_pos hj, hj, hR]
  · rw [if_neg hj, if_neg hj]
theorem nds_end {ps : Ps} (h : Ok ps) (W : List Nat) (m : Nat) {i : Nat} (hX : ∀ b, i ≤ b → b < ps.length → m ≤ (ps.getD b (0, 0)).1) : nds ps W m i = wordsOf m fun j => W.getD j 0 ^^^ (W.getD j 0 &&& Bam.look ps j) := by
  unfold nds wordsOf
  refine List.map_congr_left fun j hj => ?_
  rw [look_take_low h hX (List.mem_range.1 hj)]

def NdsRel (ps : Ps) (W : List Nat) (m n r : Nat) (F : List Nat) (lo hi : Nat) (any : Bool) (w : World) (k : Nat) (idx : Value) (wr : World) : Prop :=
  ∃ i : Nat, idx = .int .i64 (i : Int) ∧ i + k = n ∧ DeAt wr r F (nds ps W m i) lo hi any ∧ Below w.heap.size w wr
theorem assert_de_de5 (v : Value) (w : World) : (Instr.typeAssert (.iface 80 v) 57 80 false).run Tryz.prog w = .ok v w := by kernel_rfl

set_option maxRecDepth 100000 in
set_option maxHeartbeats 4000000 in
theorem nandds_any (p q : Nat) (F G : List Nat) (W : List Nat) (ps : Ps) (w : World) (h : DeW w p F W) (k : SpAt w q G ps) (ho1 : W64 W) (ho2 : Ok ps) (hn : ps.length ≤ 1000) (hm : W.length ≤ 9000) :
    Calls Tryz.prog 79 #[.pointer (some ⟨p, 0, none⟩), .pointer (some ⟨q, 0, none⟩)] w fun e w' =>
      ∃ (r : Nat) (H : List Nat), e = .returned (.iface 80 (.pointer (some ⟨r, 0, none⟩))) ∧ DeW w' r H (wordsOf W.length fun j => W.getD j 0 ^^^ (W.getD j 0 &&& Bam.look ps j)) ∧ (∀ x ∈ H, w.heap.size ≤ x) ∧ Below w.heap.size w w' := by
  obtain ⟨a2, c2, a3, c3, n, hq⟩ := k.pairs
  obtain ⟨a1, c1, m, hp⟩ := DeAt.wat h
  have hcp := copyde_any p F W w h hm
  have HCP := Lib.hid hcp
  have HP := Lib.hid hp
  have HQ := Lib.hid hq
  have HO1 := Lib.hid ho1
  have HO2 := Lib.hid ho2
  have HZ := Lib.hid (nds_zero ps W)
  have HEN : Hid (∀ i, (∀ b, i ≤ b → b < ps.length → W.length ≤ (ps.getD b (0, 0)).1) → nds ps W W.length i = wordsOf W.length fun j => W.getD j 0 ^^^ (W.getD j 0 &&& Bam.look ps j)) := Lib.hid fun i hX => nds_end ho2 W W.length hX
  have hw64 : W64 (wordsOf W.length fun j => W.getD j 0 ^^^ (W.getD j 0 &&& Bam.look ps j)) := wordsOf_ok fun i _ => nand_lt (getD_lt ho1 i)
  have HW64 := Lib.hid hw64
  obtain ⟨TW, hTW⟩ : ∃ TW, (wordsOf W.length fun j => W.getD j 0 ^^^ (W.getD j 0 &&& Bam.look ps j)) = TW := ⟨_, rfl⟩
  have hTL : TW.length = W.length := by rw [← hTW]; exact wordsOf_len _ _
  rw [hTW] at HEN HW64 ⊢
  have hta := assert_de_de5
  obtain ⟨hpn, p0, -⟩ := hp
  obtain ⟨hqn, q0, q1, -⟩ := hq
  have HPN := Lib.hid hpn
  have HQN := Lib.hid hqn
  rw [← hpn] at hm HEN hTL HZ
  rw [← hqn] at hn HEN
  have HTL := Lib.hid hTL
  have hmw : IntKind.u64.wrap (m : Int) = (m : Int) := u64wd m (by omega)
  clear hpn hqn h k ho1 ho2 hcp hw64 hTW hTL
  go_enter Tryz.func79, Tryz.ntmps79
  go_wp2_with fail
  refine HCP.out.mono ?_
  rintro e w1 ⟨r, H, rfl, hr, hfr, hb1⟩
  obtain ⟨lo, hlo⟩ : ∃ n, loW W = n := ⟨_, rfl⟩
  obtain ⟨hi, hhi⟩ : ∃ n, hiW W = n := ⟨_, rfl⟩
  obtain ⟨any, hany⟩ : ∃ n, anyW W = n := ⟨_, rfl⟩
  have hz : DeAt w1 r H (nds ps W m 0) lo hi any := by
    rw [HZ.out, ← hlo, ← hhi, ← hany]; exact hr
  have s1 := cell_below hb1 (Nat.le_refl _) q1
  have HZ1 := Lib.hid hz
  have HB1 := Lib.hid hb1
  have HFR := Lib.hid hfr
  clear hr hfr hb1 hz hlo hhi hany q0 q1 p0
  go_wp2_with fail
  go_loopg [18] n (fun k idx wr => NdsRel ps W m n r H lo hi any w k idx wr)
  case atStart => exact ⟨0, rfl, by omega, HZ1.out, HB1.out⟩
  case round =>
    obtain ⟨i, rfl, hik, hde, hbel⟩ := hrel
    have HB := Lib.hid hbel
    have hsr := hbel.size
    obtain ⟨a, c, h1, h2, hF⟩ := hde
    have HDE : Hid (DeAt wr r H (nds ps W m i) lo hi any) := Lib.hid ⟨a, c, h1, h2, hF⟩
    rw [nds_len] at h1 h2 hF
    have d0 : wr.cell? ⟨r, 0, none⟩ = some (.slice a m c) := h1.cell 0 rfl
    obtain ⟨-, q0, q1, qc⟩ := HQ.out
    have HQC := Lib.hid qc
    replace q0 := cell_below hbel (Nat.le_refl _) q0
    replace q1 := cell_below hbel (Nat.le_refl _) q1
    clear qc s1
    by_cases hi' : i < n
    · obtain ⟨g1, g2, rfl, rfl, u1, u2⟩ := HQC.out i hi'
      replace u1 := cell_below hbel (Nat.le_refl _) u1
      replace u2 := cell_below hbel (Nat.le_refl _) u2
      have hil : i < ps.length := by rw [← HQN.out]; exact hi'
      have hmem : ps.getD i (0, 0) ∈ ps := by rw [List.getD_eq_getElem?_getD, List.getElem?_eq_getElem hil]; exact List.getElem_mem _
      have hB : (ps.getD i (0, 0)).2 < 18446744073709551616 := HO2.out.2 _ hmem
      obtain ⟨X, hX⟩ : ∃ X, (ps.getD i (0, 0)).1 = X := ⟨_, rfl⟩
      obtain ⟨B, hBe⟩ : ∃ B, (ps.getD i (0, 0)).2 = B := ⟨_, rfl⟩
      have hXB : ps.getD i (0, 0) = (X, B) := by rw [← hX, ← hBe]
      have hend : m ≤ X → ∀ b, i ≤ b → b < n → m ≤ (ps.getD b (0, 0)).1 := fun hx b h1 h2 => by
        rcases Nat.eq_or_lt_of_le h1 with e | e
        · rw [← e, hX]; exact hx
        · have := keys_lt HO2.out e (by rw [← HQN.out]; exact h2)
          rw [hX] at this; omega
      rw [hX] at u2
      rw [hBe] at u1 hB
      have i0 : decide (i < n) = true := by rw [decide_eq_true_iff]; exact hi'
      have i1 : (i : Int) < (n : Int) := by omega
      have i2 : (0 : Int) ≤ (i : Int) := by omega
      have hiw : IntKind.i64.wrap ((i : Int) + 1) = ((i + 1 : Nat) : Int) := by rw [show (i : Int) + 1 = ((i + 1 : Nat) : Int) by omega]; exact IntWalk.i64_in _ (by omega)
      have HXB := Lib.hid hXB
      have HEND := Lib.hid hend
      clear hX hBe hmem hXB hend
      cases gk with
      | zero => omega
      | succ k =>
        by_cases hXm : X < m
        · have t1 : decide (m ≤ X) = false := by rw [decide_eq_false_iff_not]; omega
          obtain ⟨-, p0, pc⟩ := HP.out
          obtain ⟨g3, rfl, v1⟩ := pc X hXm
          replace p0 := cell_below hbel (Nat.le_refl _) p0
          replace v1 := cell_below hbel (Nat.le_refl _) v1
          have hA : W.getD X 0 < 18446744073709551616 := getD_lt HO1.out X
          obtain ⟨R, hR⟩ : ∃ R, W.getD X 0 ^^^ (W.getD X 0 &&& B) = R := ⟨_, rfl⟩
          have hstep := nds_step HO2.out W m hil HXB.out hR
          have hga : ∃ g, a = some ⟨g, 0, none⟩ := by
            rcases h2.cases with ⟨e, e2⟩ | ⟨g, cap, e, _⟩
            · have := congrArg List.length e2; rw [nds_len] at this; simp at this; omega
            · injection e with e; exact ⟨g, e⟩
          obtain ⟨g, rfl⟩ := hga
          have hst : DeAt (wr.setCell ⟨g, X, none⟩ (.int .u64 (R : Int))) r H (nds ps W m (i + 1)) lo hi any := by
            have h := (DeAt.word (nds_len ps W m i).symm h1 h2 X R).1
            rw [hstep] at h
            rw [hF]; exact h
          have hgw : w.heap.size ≤ g := HFR.out g (by rw [hF, obl_some]; simp)
          have hfz : wr.frozen? ⟨g, X, none⟩ = false := World.ownsRow.frozenAt (h2.to (n := m) (nds_len ps W m i).symm) X
          have d1 : ∃ X0, wr.cell? ⟨g, X, none⟩ = some X0 := by
            obtain ⟨a', c', e, hs⟩ := h2.shape
            injection e with e1 e2 e3
            obtain ⟨g', e4, hs⟩ := hs (by rw [nds_len]; omega)
            rw [← e1] at e4; injection e4 with e4; injection e4 with e4
            subst e4
            exact ⟨_, hs X (by rw [nds_len]; exact hXm)⟩
          obtain ⟨X0, d1⟩ := d1
          have hbn : ∀ w', Calls Tryz.prog 92 #[.int .u64 ((W.getD X 0 : Nat) : Int), .int .u64 (B : Int)] w' fun e w'' => e = .returned (.int .u64 (R : Int)) ∧ w'' = w' := fun w' => hR ▸ (bnand_any _ B hA hB w').mono fun _ _ h => ⟨h.1, h.2.symm⟩
          obtain ⟨A, hAe⟩ : ∃ A, W.getD X 0 = A := ⟨_, rfl⟩
          rw [hAe] at v1 hbn
          have HBN := Lib.hid hbn
          have HST := Lib.hid hst
          have x1 : (X : Int) < (m : Int) := by omega
          have x2 : (0 : Int) ≤ (X : Int) := by omega
          clear pc h1 h2 hF hst hAe hR hA hB hbn hstep hbel hil
          go_wp2_with fail
          refine wp_region_still_tail 20 (by kernel_rfl) (by kernel_rfl) ?_
          simp only [List.take_succ_cons, List.take_zero, List.drop_succ_cons, List.drop_zero]
          repeat still_step
          still_call (HBN.out _)
          repeat still_step
          refine wpStill_nil ?_
          change wpList _ _ _ _ _ wr.drew
          go_wp2_with fail
          go_roundg k
          case measure => omega
          case rel => exact ⟨i + 1, by go_num, by omega, HST.out.drewN 1, (HB.out.drew).setCell hgw _⟩
        · have t1 : decide (m ≤ X) = true := by rw [decide_eq_true_iff]; omega
          have hall := HEN.out i (HEND.out (by omega))
          clear h1 h2 hF hB hbel hil
          have hd := HDE.out
          rw [hall] at hd
          have hsl := setlow_any r H TW lo hi any wr hd HW64.out (by rw [HTL.out]; omega)
          have HSL := Lib.hid hsl
          clear hd hsl hall
          go_wp2_with fail
          refine HSL.out.mono ?_
          rintro e w2 ⟨rfl, hd2, hf2⟩
          have hsh := sethigh_any r H TW _ _ _ w2 hd2 HW64.out (by rw [HTL.out]; omega)
          have hb2 : Below w.heap.size w w2 := HB.out.trans (hf2.below (B := w.heap.size) HFR.out hsr)
          have HSH := Lib.hid hsh
          have HB2 := Lib.hid hb2
          clear hd2 hf2 hsh hb2
          go_wp2_with fail
          refine HSH.out.mono ?_
          rintro e w3 ⟨rfl, hd3, hf3⟩
          have hb3 : Below w.heap.size w w3 := HB2.out.trans (hf3.below (B := w.heap.size) HFR.out HB2.out.size)
          have hfin : DeW w3 r H TW := by
            unfold DeW
            by_cases ha : anyW TW = true
            · rw [if_pos ha] at hd3; exact hd3
            · rw [if_neg ha] at hd3
              have e : dnums TW = [] := by unfold anyW at ha; simpa using ha
              rw [(lo_nil e).1]; exact hd3
          have HFIN := Lib.hid hfin
          have HB3 := Lib.hid hb3
          clear hd3 hf3 hb3 hfin
          go_wp2_with fail
          go_ret
          exact ⟨r, H, rfl, HFIN.out, HFR.out, HB3.out⟩
    · obtain rfl : i = n := by omega
      have i0 : decide (i < i) = false := by rw [decide_eq_false_iff_not]; omega
      have hall := HEN.out i (fun b h1 h2 => absurd h2 (by omega))
      clear h1 h2 hF hbel
      have hd := HDE.out
      rw [hall] at hd
      have hsl := setlow_any r H TW lo hi any wr hd HW64.out (by rw [HTL.out]; omega)
      have HSL := Lib.hid hsl
      clear hd hsl hall
      go_wp2_with fail
      refine HSL.out.mono ?_
      rintro e w2 ⟨rfl, hd2, hf2⟩
      have hsh := sethigh_any r H TW _ _ _ w2 hd2 HW64.out (by rw [HTL.out]; omega)
      have hb2 : Below w.heap.size w w2 := HB.out.trans (hf2.below (B := w.heap.size) HFR.out hsr)
      have HSH := Lib.hid hsh
      have HB2 := Lib.hid hb2
      clear hd2 hf2 hsh hb2
      go_wp2_with fail
      refine HSH.out.mono ?_
      rintro e w3 ⟨rfl, hd3, hf3⟩
      have hb3 : Below w.heap.size w w3 := HB2.out.trans (hf3.below (B := w.heap.size) HFR.out HB2.out.size)
      have hfin : DeW w3 r H TW := by
        unfold DeW
        by_cases ha : anyW TW = true
        · rw [if_pos ha] at hd3; exact hd3
        · rw [if_neg ha] at hd3
          have e : dnums TW = [] := by unfold anyW at ha; simpa using ha
          rw [(lo_nil e).1]; exact hd3
      have HFIN := Lib.hid hfin
      have HB3 := Lib.hid hb3
      clear hd3 hf3 hb3 hfin
      go_wp2_with fail
      go_ret
      exact ⟨r, H, rfl, HFIN.out, HFR.out, HB3.out⟩
end Go.Proofs.YtjnefgmoobbniaaGreat
