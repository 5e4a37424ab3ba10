/- Walk of the bitwise and of two dense arrays; runs that make a dense array. -/
import Derived.Test.YtjnefgmoobbniaaGreatBaMadeDe
namespace Go.Proofs.YtjnefgmoobbniaaGreat
set_option linter.unusedVariables false
open Go.RowKit Bam

theorem runs_madeD (σ : List Arr) (on N M : Nat) (hσ : σ.length = on) (hon : on ≤ 100) (hM : M = (N + 63) / 64) (hM0 : 0 < M) (hN : N ≤ 512) (ms : List Nat) (hn : ms.length ≤ 900) : Runs σ (madeLD on N (64 * M) ms) (madeA ms) (σ ++ [deA (madeW M ms ms.length)]) := by
  have h : ∀ i, i ≤ ms.length → Runs (σ ++ [deA (List.replicate M 0)]) ((ms.take i).map (mkD on (64 * M))) ((ms.take i).map fun _ => ⟨true, 0, []⟩) (σ ++ [deA (madeW M ms i)]) := by
    intro i
    induction i with
    | zero => intro _; simpa [madeW] using Runs.nil (σ ++ [deA (List.replicate M 0)])
    | succ i ih =>
      intro hi
      have h1 := ih (Nat.le_of_succ_le hi)
      obtain ⟨k1, k2⟩ := madeW_ok M hM0 ms i (Nat.le_of_succ_le hi)
      have hk : ms.getD i 0 % 1152921504606846976 % (64 * M) < 64 * M := Nat.mod_lt _ (by omega)
      have h2 := does_setde (σ ++ [deA (madeW M ms i)]) (mkD on (64 * M) (ms.getD i 0)) (madeW M ms i) rfl (by show (σ ++ [deA (madeW M ms i)])[on]? = _; rw [← hσ]; simp) k1 (by rw [k2]; omega) (by rw [k2]; exact hk)
      have e3 : (σ ++ [deA (madeW M ms i)]).set (mkD on (64 * M) (ms.getD i 0)).on (deA (dSet (madeW M ms i) (mkD on (64 * M) (ms.getD i 0)).k)) = σ ++ [deA (madeW M ms (i + 1))] := by
        rw [madeW_succ M ms i hi]
        show (σ ++ [deA (madeW M ms i)]).set on _ = _
        rw [← hσ]
        exact set_last _ _ _
      rw [e3] at h2
      have h3 := h1.append (Runs.one (by simp; omega) h2)
      rw [List.take_succ_eq_append_getElem hi, List.map_append, List.map_append]
      have e4 : ms.getD i 0 = ms[i] := by rw [List.getD_eq_getElem?_getD, List.getElem?_eq_getElem hi]; rfl
      rw [e4] at h3
      exact h3
  have h0 := h ms.length (Nat.le_refl _)
  rw [List.take_length] at h0
  have h1 := does_newde σ (firstD N) rfl rfl (by show N ≤ _; omega)
  have e : ((firstD N).k + 63) / 64 = M := hM.symm
  rw [e] at h1
  exact (Runs.one (by omega) h1).append h0
theorem madeLD_len (on N C : Nat) (ms : List Nat) : (madeLD on N C ms).length = ms.length + 1 := by simp [madeLD]
theorem made_cd (sz N M : Nat) (v : Value) (xs : List Nat) (on : Nat) (w : World) (hv : Sl w v (u64s xs)) (hb : ∀ x ∈ xs, x < 18446744073709551616) (hon : on ≤ 1000) (hsz : sz < 65536) (hN : N = 1 + sz % 512) (hM : M = (N + 63) / 64) : MadeC true (sz : Int) v on (madeLD on N (64 * M) (xs.take 40)) M (dnums (madeW M (xs.take 40) (xs.take 40).length)) w := by
  unfold MadeC
  rw [madeLD_len]
  exact made_de sz N M v xs on w hv hb hon hsz hN hM

def MinRel (x y : Nat) (w : World) (k : Nat) (m i : Value) (wr : World) : Prop := wr = w ∧ ((k = 1 ∧ m = .int .u64 (x : Int) ∧ i = .int .i64 1) ∨ (k = 0 ∧ m = .int .u64 ((Nat.min x y : Nat) : Int) ∧ i = .int .i64 2))
theorem minu_any (g x y : Nat) (w : World) (hx : w.cell? ⟨g, 0, none⟩ = some (.int .u64 (x : Int))) (hy : w.cell? ⟨g, 1, none⟩ = some (.int .u64 (y : Int))) :
    Calls Tryz.prog 84 #[.slice (some ⟨g, 0, none⟩) 2 2] w fun e w' => e = .returned (.int .u64 ((Nat.min x y : Nat) : Int)) ∧ w = w' := by
  go_enter Tryz.func84, Tryz.ntmps84
  go_wp2_with fail
  go_loopg [3, 4] 1 (fun k m i wr => MinRel x y w k m i wr)
  case atStart => exact ⟨rfl, .inl ⟨rfl, rfl, rfl⟩⟩
  case round =>
    obtain ⟨rfl, ⟨rfl, rfl, rfl⟩ | ⟨rfl, rfl, rfl⟩⟩ := hrel
    · by_cases hxy : y < x
      · have hd : decide (y < x) = true := by rw [decide_eq_true_iff]; exact hxy
        have e : Nat.min x y = y := Nat.min_eq_right (Nat.le_of_lt hxy)
        have HE := Lib.hid e
        clear hxy e
        go_wp2_with fail
        go_roundg 0
        case measure => omega
        case rel => exact ⟨rfl, .inr ⟨rfl, by rw [HE.out], rfl⟩⟩
      · have hd : decide (y < x) = false := by rw [decide_eq_false_iff_not]; exact hxy
        have e : Nat.min x y = x := Nat.min_eq_left (by omega)
        have HE := Lib.hid e
        clear hxy e
        go_wp2_with fail
        go_roundg 0
        case measure => omega
        case rel => exact ⟨rfl, .inr ⟨rfl, by rw [HE.out], rfl⟩⟩
    · go_wp2_with fail
      go_ret
      exact ⟨rfl, rfl⟩

theorem wordsOf_len (n : Nat) (f : Nat → Nat) : (wordsOf n f).length = n := by simp [wordsOf]
theorem wordsOf_set (n : Nat) (f : Nat → Nat) (i x : Nat) : (wordsOf n f).set i x = wordsOf n (fun j => if j = i then x else f j) := by
  apply List.ext_getElem?
  intro q
  unfold wordsOf
  by_cases hq : q < n
  · by_cases e : q = i
    · subst e
      rw [List.getElem?_set_self (by simpa using hq), List.getElem?_map, List.getElem?_range hq]; simp
    · rw [List.getElem?_set_ne (fun h => e h.symm), List.getElem?_map, List.getElem?_map, List.getElem?_range hq]; simp [e]
  · rw [List.getElem?_eq_none (by simp; omega), List.getElem?_eq_none (by simp; omega)]
theorem wordsOf_zero (n : Nat) (f : Nat → Nat) : wordsOf n (fun j => if j < 0 then f j else 0) = List.replicate n 0 := by
  apply List.ext_getElem?
  intro q
  unfold wordsOf
  by_cases hq : q < n
  · rw [List.getElem?_map, List.getElem?_range hq, List.getElem?_replicate]; simp [hq]
  · rw [List.getElem?_eq_none (by simp; omega), List.getElem?_eq_none (by simp; omega)]
theorem wordsOf_full (n : Nat) (f : Nat → Nat) : wordsOf n (fun j => if j < n then f j else 0) = wordsOf n f := by
  unfold wordsOf
  refine List.map_congr_left fun j hj => ?_
  rw [if_pos (List.mem_range.1 hj)]
theorem wordsOf_step (n : Nat) (f : Nat → Nat) (i : Nat) : (wordsOf n (fun j => if j < i then f j else 0)).set i (f i) = wordsOf n (fun j => if j < i + 1 then f j else 0) := by
  rw [wordsOf_set]
  unfold wordsOf
  refine List.map_congr_left fun j _ => ?_
  show (if j = i then f i else if j < i then f j else 0) = if j < i + 1 then f j else 0
  by_cases e : j = i
  · subst e; rw [if_pos rfl, if_pos (by omega)]
  · rw [if_neg e]
    by_cases h : j < i
    · rw [if_pos h, if_pos (by omega)]
    · rw [if_neg h, if_neg (by omega)]

/-- a dense array's words in memory -/
def WordsAt (w : World) (p : Nat) (W : List Nat) (a : Option Addr) (c n : Nat) : Prop :=
  n = W.length ∧ w.cell? ⟨p, 0, none⟩ = some (.slice a n c) ∧ ∀ i, i < n → ∃ g, a = some ⟨g, 0, none⟩ ∧ w.cell? ⟨g, i, none⟩ = some (.int .u64 ((W.getD i 0 : Nat) : Int))
theorem DeAt.wat {w : World} {p : Nat} {F W : List Nat} {lo hi : Nat} {any : Bool} (h : DeAt w p F W lo hi any) : ∃ a c n, WordsAt w p W a c n := by
  obtain ⟨a, c, c0, -, -, -, hc⟩ := h.cells
  refine ⟨a, c, _, rfl, c0, fun i hi => ?_⟩
  obtain ⟨g, e, h⟩ := hc (by omega)
  exact ⟨g, e, h i hi⟩
theorem WordsAt.below {w w' : World} {p : Nat} {W : List Nat} {a : Option Addr} {c n : Nat} (h : WordsAt w p W a c n) (hb : Below w.heap.size w w') : WordsAt w' p W a c n := by
  obtain ⟨h0, h1, h2⟩ := h
  refine ⟨h0, cell_below hb (Nat.le_refl _) h1, fun i hi => ?_⟩
  obtain ⟨g, e, k⟩ := h2 i hi
  exact ⟨g, e, cell_below hb (Nat.le_refl _) k⟩

def AndDe (W V : List Nat) (m r : Nat) (F : List Nat) (w : World) (k : Nat) (idx : Value) (wr : World) : Prop :=
  ∃ i : Nat, idx = .int .u64 (i : Int) ∧ i + k = m ∧ DeAt wr r F (wordsOf m fun j => if j < i then W.getD j 0 &&& V.getD j 0 else 0) 0 0 false ∧ Below w.heap.size w wr

set_option maxRecDepth 100000 in
set_option maxHeartbeats 4000000 in
theorem andde_any (p q : Nat) (F G : List Nat) (W V : List Nat) (w : World) (h : DeW w p F W) (k : DeW w q G V) (ho1 : W64 W) (ho2 : W64 V) (hn : W.length ≤ 9000) (hm : V.length ≤ 9000) :
    Calls Tryz.prog 68 #[.pointer (some ⟨p, 0, none⟩), .pointer (some ⟨q, 0, none⟩)] w fun e w' =>
      ∃ (r : Nat) (H : List Nat), e = .returned (.iface 80 (.pointer (some ⟨r, 0, none⟩))) ∧ DeW w' r H (wordsOf (min W.length V.length) fun i => W.getD i 0 &&& V.getD i 0) ∧ (∀ x ∈ H, w.heap.size ≤ x) ∧ Below w.heap.size w w' := by
  obtain ⟨a1, c1, n, hp⟩ := DeAt.wat h
  obtain ⟨a2, c2, m, hq⟩ := DeAt.wat k
  have HP := Lib.hid hp
  have HQ := Lib.hid hq
  have HO1 := Lib.hid ho1
  have HO2 := Lib.hid ho2
  obtain ⟨hpn, p0, -⟩ := hp
  obtain ⟨hqn, q0, -⟩ := hq
  rw [← hpn, ← hqn]
  rw [← hpn] at hn
  rw [← hqn] at hm
  obtain ⟨M, hM⟩ : ∃ M, min n m = M := ⟨_, rfl⟩
  have hM1 : M ≤ n := by omega
  have hM2 : M ≤ m := by omega
  rw [hM]
  have HM := Lib.hid (show Nat.min n m = M from hM)
  have hnw : IntKind.u64.wrap (n : Int) = (n : Int) := u64wd n (by omega)
  have hmw : IntKind.u64.wrap (m : Int) = (m : Int) := u64wd m (by omega)
  have hw64 : W64 (wordsOf M fun i => W.getD i 0 &&& V.getD i 0) := wordsOf_ok fun i _ => Nat.lt_of_le_of_lt Nat.and_le_left (getD_lt ho1 i)
  have HW64 := Lib.hid hw64
  clear hpn hqn h k ho1 ho2 hM hw64
  go_enter Tryz.func68, Tryz.ntmps68
  go_wp2_with fail
  go_still_tail 12, (by kernel_rfl)
  go_wp2_with fail
  have hb0 : Below w.heap.size w (w.alloc (.cells #[.int .u64 (n : Int), .int .u64 (m : Int)] 34)).drew := ((Below.refl _ _).alloc (Nat.le_refl _) _).drew
  have hx0 : (w.alloc (.cells #[.int .u64 (n : Int), .int .u64 (m : Int)] 34)).drew.cell? ⟨w.heap.size, 0, none⟩ = some (.int .u64 (n : Int)) := (Blk.new w _ _).cell 0 rfl
  have hx1 : (w.alloc (.cells #[.int .u64 (n : Int), .int .u64 (m : Int)] 34)).drew.cell? ⟨w.heap.size, 1, none⟩ = some (.int .u64 (m : Int)) := (Blk.new w _ _).cell 1 rfl
  obtain ⟨w0, hw0⟩ : ∃ w0, (w.alloc (.cells #[.int .u64 (n : Int), .int .u64 (m : Int)] 34)).drew = w0 := ⟨_, rfl⟩
  rw [hw0] at hb0 hx0 hx1 ⊢
  have hmin := minu_any w.heap.size n m w0 hx0 hx1
  rw [HM.out] at hmin
  refine hmin.mono ?_
  have HB0 := Lib.hid hb0
  have hs0 := hb0.size
  clear hb0 hx0 hx1 hw0 p0 q0 hmin
  rintro e w' ⟨rfl, rfl⟩
  have hmul : IntKind.u64.wrap ((M : Int) * 64) = ((64 * M : Nat) : Int) := by rw [show (M : Int) * 64 = ((64 * M : Nat) : Int) by omega]; exact u64wd _ (by omega)
  have hmul2 : (M : Int) * 64 = ((64 * M : Nat) : Int) := by omega
  have hnew := newde_nil (64 * M) M w0 (by omega) (by omega)
  obtain ⟨C, hC⟩ : ∃ C, 64 * M = C := ⟨_, rfl⟩
  rw [hC] at hmul hmul2 hnew
  have HNEW := Lib.hid hnew
  have HCE := Lib.hid hC
  have HMU := Lib.hid hmul
  have HMU2 := Lib.hid hmul2
  clear hnew hC hmul hmul2
  go_wp2_with fail
  rw [HMU2.out]
  refine HNEW.out.mono ?_
  rintro e w1 ⟨r, H, rfl, hr, hfr, hb1⟩
  have hb01 := HB0.out.trans (hb1.mono hs0)
  have hz : DeAt w1 r H (wordsOf M fun j => if j < 0 then W.getD j 0 &&& V.getD j 0 else 0) 0 0 false := by
    rw [wordsOf_zero]
    unfold DeW at hr
    obtain ⟨z1, z2, z3⟩ := lo_nil (dnums_zero M)
    rw [z1, z2, z3] at hr
    exact hr
  have hfr' : ∀ x ∈ H, w.heap.size ≤ x := fun x hx => Nat.le_trans hs0 (hfr x hx)
  have HZ := Lib.hid hz
  have HB1 := Lib.hid hb01
  have HFR := Lib.hid hfr'
  clear hr hfr hb1 hb01 hz hfr'
  go_wp2_with fail
  go_loopg [7] M (fun k idx wr => AndDe W V M r H w k idx wr)
  case atStart => exact ⟨0, rfl, by omega, HZ.out, HB1.out⟩
  case round =>
    obtain ⟨i, rfl, hik, hde, hbel⟩ := hrel
    have HB := Lib.hid hbel
    have HD := Lib.hid hde
    have hsr := hbel.size
    by_cases hi : i < M
    · cases gk with
      | zero => omega
      | succ k =>
        have t0 : decide (i < M) = true := by rw [decide_eq_true_iff]; exact hi
        obtain ⟨-, p0, pc⟩ := HP.out
        obtain ⟨-, q0, qc⟩ := HQ.out
        obtain ⟨g1, rfl, u1⟩ := pc i (by omega)
        obtain ⟨g2, rfl, u2⟩ := qc i (by omega)
        replace p0 := cell_below hbel (Nat.le_refl _) p0
        replace q0 := cell_below hbel (Nat.le_refl _) q0
        replace u1 := cell_below hbel (Nat.le_refl _) u1
        replace u2 := cell_below hbel (Nat.le_refl _) u2
        obtain ⟨a, c, h1, h2, hF⟩ := hde
        rw [wordsOf_len] at h1 h2 hF
        have hst : ∀ g, a = some ⟨g, 0, none⟩ → DeAt (wr.setCell ⟨g, i, none⟩ (.int .u64 ((W.getD i 0 &&& V.getD i 0 : Nat) : Int))) r H (wordsOf M fun j => if j < i + 1 then W.getD j 0 &&& V.getD j 0 else 0) 0 0 false := fun g e => by
          subst e
          have h := (DeAt.word (wordsOf_len M _).symm h1 h2 i (W.getD i 0 &&& V.getD i 0)).1
          rw [wordsOf_step M (fun j => W.getD j 0 &&& V.getD j 0) i] at h
          rw [hF]; exact h
        have hga : ∃ g, a = some ⟨g, 0, none⟩ := by
          rcases h2.cases with ⟨e, e2⟩ | ⟨g, cap, e, _⟩
          · have := congrArg List.length e2; rw [wordsOf_len] at this; simp at this; omega
          · injection e with e; exact ⟨g, e⟩
        obtain ⟨g, rfl⟩ := hga
        have hst := hst g rfl
        have hgw : w.heap.size ≤ g := HFR.out g (by rw [hF, obl_some]; simp)
        have hfz : wr.frozen? ⟨g, i, none⟩ = false := World.ownsRow.frozenAt (h2.to (n := M) (wordsOf_len M _).symm) i
        have d0 : wr.cell? ⟨r, 0, none⟩ = some (.slice (some ⟨g, 0, none⟩) M c) := h1.cell 0 rfl
        have d1 : ∃ X0, wr.cell? ⟨g, i, none⟩ = some X0 := by
          have h := h2.shape
          obtain ⟨a', c', e, hs⟩ := h
          injection e with e1 e2 e3
          obtain ⟨g', e4, hs⟩ := hs (by rw [wordsOf_len]; omega)
          rw [← e1] at e4; injection e4 with e4; injection e4 with e4
          subst e4
          exact ⟨_, hs i (by rw [wordsOf_len]; exact hi)⟩
        obtain ⟨X0, d1⟩ := d1
        have hA : W.getD i 0 < 18446744073709551616 := getD_lt HO1.out i
        have hB : V.getD i 0 < 18446744073709551616 := getD_lt HO2.out i
        obtain ⟨A, hAe⟩ : ∃ A, W.getD i 0 = A := ⟨_, rfl⟩
        obtain ⟨B, hBe⟩ : ∃ B, V.getD i 0 = B := ⟨_, rfl⟩
        rw [hAe] at u1 hA hst
        rw [hBe] at u2 hB hst
        have i1 : (i : Int) < (M : Int) := by omega
        have i2 : (0 : Int) ≤ (i : Int) := by omega
        have i3 : (i : Int) < (n : Int) := by omega
        have i4 : (i : Int) < (m : Int) := by omega
        have i5 : i < n := by omega
        have i6 : i < m := by omega
        have hiw : IntKind.u64.wrap (i : Int) = (i : Int) := u64wd i (by omega)
        have HST := Lib.hid hst
        clear pc qc h1 h2 hF hst hAe hBe hbel
        go_wp2_with fail
        refine wp_region_still_tail 20 (by kernel_rfl) (by kernel_rfl) ?_
        simp only [List.take_succ_cons, List.take_zero, List.drop_succ_cons, List.drop_zero]
        repeat still_step
        still_call ((band_any A B hA hB _).mono fun _ _ h => ⟨h.1, h.2.symm⟩)
        repeat still_step
        refine wpStill_nil ?_
        change wpList _ _ _ _ _ wr.drew
        go_wp2_with fail
        go_roundg k
        case measure => omega
        case rel => exact ⟨i + 1, by go_num, by omega, HST.out.drewN 1, (HB.out.drew).setCell hgw _⟩
    · obtain rfl : i = M := by omega
      have t0 : decide (i < i) = false := by rw [decide_eq_false_iff_not]; omega
      have hd := hde
      rw [wordsOf_full] at hd
      have hsl := setlow_any r H _ 0 0 false wr hd HW64.out (by rw [wordsOf_len]; omega)
      have HSL := Lib.hid hsl
      clear hde hbel hd hsl
      go_wp2_with fail
      refine HSL.out.mono ?_
      rintro e w2 ⟨rfl, hd2, hf2⟩
      have hsh := sethigh_any r H _ _ _ _ w2 hd2 HW64.out (by rw [wordsOf_len]; omega)
      have hb2 : Below w.heap.size w w2 := HB.out.trans (hf2.below (B := w.heap.size) HFR.out hsr)
      have HSH := Lib.hid hsh
      have HB2 := Lib.hid hb2
      clear hd2 hf2 hsh hb2
      go_wp2_with fail
      refine HSH.out.mono ?_
      rintro e w3 ⟨rfl, hd3, hf3⟩
      have hb3 : Below w.heap.size w w3 := HB2.out.trans (hf3.below (B := w.heap.size) HFR.out HB2.out.size)
      have hfin : DeW w3 r H (wordsOf i fun j => W.getD j 0 &&& V.getD j 0) := by
        unfold DeW
        by_cases ha : anyW (wordsOf i fun j => W.getD j 0 &&& V.getD j 0) = true
        · rw [if_pos ha] at hd3; exact hd3
        · rw [if_neg ha] at hd3
          have e : dnums (wordsOf i fun j => W.getD j 0 &&& V.getD j 0) = [] := by unfold anyW at ha; simpa using ha
          rw [(lo_nil e).1]; exact hd3
      have HFIN := Lib.hid hfin
      have HB3 := Lib.hid hb3
      clear hd3 hf3 hb3 hfin
      go_wp2_with fail
      go_ret
      exact ⟨r, H, rfl, HFIN.out, HFR.out, HB3.out⟩
end Go.Proofs.YtjnefgmoobbniaaGreat
