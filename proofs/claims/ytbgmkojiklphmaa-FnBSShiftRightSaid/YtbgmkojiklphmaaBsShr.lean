/- Walk of (*BitSet).ShiftRight. -/
import Derived.Test.YtbgmkojiklphmaaBsTop
import Derived.Test.YtbgmkojiklphmaaBsDelete
import Derived.Outline
namespace Go.Proofs.Ytbgmkojiklphmaa
set_option linter.unusedVariables false
open Go.RowKit

set_option maxRecDepth 100000 in
set_option maxHeartbeats 2000000 in
theorem shr_zero (B p L b : Nat) (ws : List Nat) (cap : Nat) (w : World) (hb : Bs B w p L ws cap) (hn9 : ws.length ≤ 1000) (h0 : b = 0) :
    Calls Try.prog 74 #[.pointer (some ⟨p, 0, none⟩), .int .u64 (b : Int)] w fun e w' => e = .returned (.tuple #[]) ∧
      ∃ ws', Bs B w' p L ws' cap ∧ ws'.length = ws.length ∧ (∀ j, Bsm.bit ws' j = Bsm.bit ws (j + b)) ∧ Below B w w' := by
  subst h0
  have HB := Lib.hid hb
  clear hb
  go_enter Try.func74, Try.ntmps74
  go_wp2_with fail
  refine (notnull_any _ _).mono ?_
  rintro e w' ⟨rfl, rfl⟩
  go_wp2_with fail
  (try simp only [Exit.inBlock, Exit.then])
  refine bodyPost_ret (results_none rfl _ _ _) rfl ?_
  exact ⟨rfl, ws, HB.out, rfl, fun j => rfl, Below.refl _ _⟩

set_option maxRecDepth 100000 in
set_option maxHeartbeats 2000000 in
theorem shr_none (B p L b : Nat) (ws : List Nat) (cap : Nat) (w : World) (hb : Bs B w p L ws cap) (hn9 : ws.length ≤ 1000) (hb1 : 1 ≤ b) (hb2 : b ≤ 1000) (hz : ∀ j, Bsm.bit ws j = false) :
    Calls Try.prog 74 #[.pointer (some ⟨p, 0, none⟩), .int .u64 (b : Int)] w fun e w' => e = .returned (.tuple #[]) ∧
      ∃ ws', Bs B w' p L ws' cap ∧ ws'.length = ws.length ∧ (∀ j, Bsm.bit ws' j = Bsm.bit ws (j + b)) ∧ Below B w w' := by
  have hb0 : ¬ (b : Int) = 0 := by omega
  have HB := Lib.hid hb
  have HZ := Lib.hid hz
  clear hb hz
  go_enter Try.func74, Try.ntmps74
  go_wp2_with fail
  refine (notnull_any _ _).mono ?_
  rintro e w' ⟨rfl, rfl⟩
  go_wp2_with fail
  refine (top_none B p L ws cap _ HB.out hn9 HZ.out).mono ?_
  rintro e w' ⟨rfl, rfl⟩
  go_wp2_with fail
  (try simp only [Exit.inBlock, Exit.then])
  refine bodyPost_ret (results_none rfl _ _ _) rfl ?_
  exact ⟨rfl, ws, HB.out, rfl, fun j => by rw [HZ.out, HZ.out], Below.refl _ _⟩

set_option maxRecDepth 100000 in
set_option maxHeartbeats 2000000 in
theorem shr_all (B p L b : Nat) (ws : List Nat) (cap : Nat) (w : World) (hb : Bs B w p L ws cap) (hn9 : ws.length ≤ 1000) (t : Nat) (ht5 : t ≤ 100000) (hbt : t < b) (hb2 : b ≤ 1000) (ht : Bsm.bit ws t = true) (hz : ∀ j, t < j → Bsm.bit ws j = false) :
    Calls Try.prog 74 #[.pointer (some ⟨p, 0, none⟩), .int .u64 (b : Int)] w fun e w' => e = .returned (.tuple #[]) ∧
      ∃ ws', Bs B w' p L ws' cap ∧ ws'.length = ws.length ∧ (∀ j, Bsm.bit ws' j = Bsm.bit ws (j + b)) ∧ Below B w w' := by
  have hb0 : ¬ (b : Int) = 0 := by omega
  have hgt : decide ((t : Int) < (b : Int)) = true := by simp; omega
  have HB := Lib.hid hb
  have HZ := Lib.hid hz
  have HT := Lib.hid ht
  clear hb hz ht
  go_enter Try.func74, Try.ntmps74
  go_wp2_with fail
  refine (notnull_any _ _).mono ?_
  rintro e w' ⟨rfl, rfl⟩
  go_wp2_with fail
  refine (top_some B p L t ws cap _ HB.out hn9 HT.out HZ.out).mono ?_
  rintro e w' ⟨rfl, rfl⟩
  go_wp2_with fail
  refine (clearall_any B p L ws cap _ HB.out (by omega)).mono ?_
  rintro e w2 ⟨rfl, hb2', hbel⟩
  have HB2 := Lib.hid hb2'
  clear hb2'
  go_wp2_with fail
  (try simp only [Exit.inBlock, Exit.then])
  refine bodyPost_ret (results_none rfl _ _ _) rfl ?_
  refine ⟨rfl, _, HB2.out, Bsm.lay_len _ _ _, fun j => ?_, hbel⟩
  rw [Bsm.bit_lay, HZ.out _ (by omega)]
  split <;> simp

theorem run_slice_mid (g n cap l h : Nat) (kl kh : IntKind) (I J : Int) (hI : I = (l : Int)) (hJ : J = (h : Int)) (hlh : l < h) (hh : h ≤ cap) (W : World) :
    (Instr.slice 36 (.slice (some ⟨g, 0, none⟩) n cap) (some (.int kl I)) (some (.int kh J)) none).run Try.prog W = .ok (.slice (some ⟨g, l, none⟩) (h - l) (cap - l)) W := by
  subst hI hJ
  rw [run_slice_lh (P := Try.prog) (t := 36) (a := some ⟨g, 0, none⟩) (len := n) (cap := cap) (ht := Try.underlying36) (kl := kl) (kh := kh) (l := (l : Int)) (h := (h : Int)) (h0 := by omega) (h1 := by omega) (h2 := by omega)]
  have es : ((sizeOf (Try.prog.elem 36)).run Try.prog W) = .ok 1 W := by kernel_rfl
  rw [es]
  have hne : ¬ cap = l := by omega
  simp [Result.andThen, sliced, hne, addr_add]
theorem Sl.mid {w : World} {g n cap : Nat} {vs : List Value} (hs : Sl w (.slice (some ⟨g, 0, none⟩) n cap) vs) (l h : Nat) (hlh : l < h) (hh : h ≤ n) : Sl w (.slice (some ⟨g, l, none⟩) (h - l) (cap - l)) ((vs.drop l).take (h - l)) := by
  obtain ⟨a1, n1, c1, e, h1, h2, h3, h4⟩ := hs
  simp only [Value.slice.injEq] at e
  obtain ⟨rfl, rfl, rfl⟩ := e
  refine ⟨_, _, _, rfl, by simp; omega, by omega, by omega, fun h0 => ?_⟩
  obtain ⟨b, off, e, hc⟩ := h4 (by omega)
  simp only [Option.some.injEq, Addr.mk.injEq, and_true] at e
  obtain ⟨rfl, rfl⟩ := e
  refine ⟨g, l, rfl, fun i u hu => ?_⟩
  rw [List.getElem?_take] at hu
  split at hu
  · rw [List.getElem?_drop] at hu
    have := hc _ u hu
    rwa [Nat.zero_add] at this
  · cases hu
theorem list_ext0 (a b : List Nat) (hl : a.length = b.length) (h : ∀ q, a.getD q 0 = b.getD q 0) : a = b := by
  apply List.ext_getElem hl
  intro i h1 h2
  have := h i
  simpa [List.getD_eq_getElem?_getD, List.getElem?_eq_getElem h1, List.getElem?_eq_getElem h2] using this

def ShrLoop (F : Nat → Nat) (B p L : Nat) (ws : List Nat) (cap g n : Nat) (w : World) (lo hi : Nat) (k : Nat) (idx : Value) (wr : World) : Prop :=
  ∃ i : Nat, idx = .int .i64 (i : Int) ∧ lo ≤ i ∧ i + k = hi ∧ Bs B wr p L (Bsm.layf F ws i) cap ∧ wr.cell? ⟨p, 1, none⟩ = some (.slice (some ⟨g, 0, none⟩) n cap) ∧ Below B w wr

set_option maxRecDepth 100000 in
set_option maxHeartbeats 4000000 in
theorem shr_copy (B p L b : Nat) (ws : List Nat) (cap : Nat) (w : World) (hb : Bs B w p L ws cap) (hn9 : ws.length ≤ 1000) (t : Nat) (ht5 : t ≤ 100000) (hbt : b ≤ t) (hb1 : 1 ≤ b) (hb2 : b ≤ 1000) (hm : b % 64 = 0) (ht : Bsm.bit ws t = true) (hz : ∀ j, t < j → Bsm.bit ws j = false) :
    Calls Try.prog 74 #[.pointer (some ⟨p, 0, none⟩), .int .u64 (b : Int)] w fun e w' => e = .returned (.tuple #[]) ∧
      ∃ ws', Bs B w' p L ws' cap ∧ ws'.length = ws.length ∧ (∀ j, Bsm.bit ws' j = Bsm.bit ws (j + b)) ∧ Below B w w' := by
  obtain ⟨g, c0, c1, c2⟩ := hb.cells
  have hrow : B ≤ p ∧ g ≠ p ∧ Blk w p 76 #[.int .u64 (L : Int), .slice (some ⟨g, 0, none⟩) ws.length cap] ∧ w.ownsRow B 63 1 (.slice (some ⟨g, 0, none⟩) ws.length cap) ws.length (u64s ws) := by
    obtain ⟨g', h1, h2, h3, h4, _⟩ := hb
    have e1 : w.cell? ⟨p, 1, none⟩ = some (.slice (some ⟨g', 0, none⟩) ws.length cap) := h3.cell 1 rfl
    rw [c1] at e1
    simp only [Option.some.injEq, Value.slice.injEq, Addr.mk.injEq, and_true] at e1
    subst e1
    exact ⟨h1, h2, h3, h4⟩
  have HROW := Lib.hid hrow
  clear hrow
  obtain ⟨n, hn⟩ : ∃ n, ws.length = n := ⟨_, rfl⟩
  have hwlt := hb.word_lt
  have hqn : t / 64 < n := by
    rcases Nat.lt_or_ge (t / 64) n with h | h
    · exact h
    · unfold Bsm.bit at ht; rw [List.getD_eq_getElem?_getD, List.getElem?_eq_none (by omega)] at ht; simp at ht
  have hz2 : ∀ q, t / 64 < q → ws.getD q 0 = 0 := fun q hq => Bsm.word_of_bits ws q (hwlt q) fun j hj => hz j (by omega)
  obtain ⟨q0, hq0⟩ : ∃ q0, t / 64 = q0 := ⟨_, rfl⟩
  obtain ⟨pg, hpg⟩ : ∃ pg, b / 64 = pg := ⟨_, rfl⟩
  obtain ⟨s, hs⟩ : ∃ s, b % 64 = s := ⟨_, rfl⟩
  obtain ⟨d, hd⟩ : ∃ d, q0 - pg = d := ⟨_, rfl⟩
  rw [hq0] at hqn hz2
  have hs64 : s < 64 := by omega
  have hpq : pg ≤ q0 := by omega
  have hdn : d < n := by omega
  have hbits := Bsm.shr_bits ws s pg d hwlt hs64 (by omega) (fun q hq => hz2 q (by omega))
  rw [show 64 * pg + s = b from by omega] at hbits
  have e1 : (t : Int) / 64 = (q0 : Int) := by omega
  have e2 : (b : Int) / 64 = (pg : Int) := by omega
  have e3 : (b : Int) % 64 = (s : Int) := by omega
  have e4 : (q0 : Int) - (pg : Int) = (d : Int) := by omega
  have hb0 : ¬ (b : Int) = 0 := by omega
  have hgt : decide ((t : Int) < (b : Int)) = false := by simp; omega
  have HB := Lib.hid hb
  have HZ := Lib.hid hz
  have HT := Lib.hid ht
  have HZ2 := Lib.hid hz2
  have HN := Lib.hid hn
  have HBITS := Lib.hid hbits
  have HWLT := Lib.hid hwlt
  obtain rfl : s = 0 := by omega
  have e3' : ((b : Int) % 64 == 0) = true := by simp; omega
  obtain ⟨q1, hq1⟩ : ∃ q1, q0 + 1 = q1 := ⟨_, rfl⟩
  have hq1' : (q0 : Int) + 1 = (q1 : Int) := by omega
  have hw1 : IntKind.u64.wrap ((q0 : Int) + 1) = (q1 : Int) := by rw [IntKind.wrap_u64]; omega
  rw [hn] at c1 hn9
  have hrow := HROW.out
  rw [HN.out] at hrow
  have hcap := ownsRow_cap hrow.2.2.2
  have hsl := fun W => run_slice_mid g n cap pg q1 .u64 .u64 (pg : Int) (q1 : Int) rfl rfl (by omega) (by omega) W
  have hsm := Sl.mid (Sl.of_owns hrow.2.2.2) pg q1 (by omega) (by omega)
  rw [show ((u64s ws).drop pg).take (q1 - pg) = u64s ((ws.drop pg).take (q1 - pg)) from by simp [u64s, List.map_take, List.map_drop]] at hsm
  have hw2 : IntKind.u64.wrap (q1 : Int) = (q1 : Int) := by rw [IntKind.wrap_u64]; omega
  have hp0 : (0 : Int) ≤ (pg : Int) := by omega
  have hp1 : (pg : Int) ≤ (q1 : Int) := by omega
  have hp2 : (q1 : Int) ≤ (cap : Int) := by omega
  have hp3 : ¬ cap = pg := by omega
  have HSM := Lib.hid hsm
  have HRW := Lib.hid hrow
  clear hsm hrow
  have HQ1 := Lib.hid hq1
  clear hb hz ht hz2 hn hbits hwlt c2 hq0 hpg hs hd hm hq1
  go_enter Try.func74, Try.ntmps74
  go_wp2_with fail
  refine (notnull_any _ _).mono ?_
  rintro e w' ⟨rfl, rfl⟩
  go_wp2_with fail
  refine (top_some B p L t ws cap _ HB.out (by rw [HN.out]; exact hn9) HT.out HZ.out).mono ?_
  rintro e w' ⟨rfl, rfl⟩
  go_wp2_with fail
  refine wp_region_still_tail 12 (by kernel_rfl) (by kernel_rfl) ?_
  simp only [List.take_succ_cons, List.take_zero, List.drop_succ_cons, List.drop_zero]
  repeat still_step
  refine wpStill_nil ?_
  change wpList _ _ _ _ _ w.drew
  have hvl : (u64s ((ws.drop pg).take (q1 - pg))).length = q1 - pg := by rw [u64s_len, List.length_take, List.length_drop, HN.out]; omega
  refine wpList_copySl rfl _ _ 36 36 rfl B 63 (.int .u64 0) 8 Try.underlying36 info_w64 g n cap (u64s ws) rfl HRW.out.2.2.2 (.slice (some ⟨g, pg, none⟩) (q1 - pg) (cap - pg)) (u64s ((ws.drop pg).take (q1 - pg))) rfl (HSM.out.below rfl (Below.refl _ _).drew) (by rw [hvl]; omega) (u64_cells _) ?_
  intro w2 hown2 hg2 hb2
  have hd1 : q1 - pg = d + 1 := by have := HQ1.out; omega
  have hlist : u64s ((ws.drop pg).take (q1 - pg)) ++ (u64s ws).drop (u64s ((ws.drop pg).take (q1 - pg))).length = u64s (Bsm.layf (Bsm.shrw ws 0 pg d) ws (d + 1)) := by
    rw [hvl, hd1, show (u64s ws).drop (d + 1) = u64s (ws.drop (d + 1)) from by simp [u64s, List.map_drop], show ∀ x y, u64s x ++ u64s y = u64s (x ++ y) from fun x y => by simp [u64s]]
    congr 1
    apply list_ext0
    · rw [Bsm.layf_len, List.length_append, List.length_take, List.length_drop, List.length_drop, HN.out]; have := HQ1.out; omega
    · intro q
      rw [Bsm.layf_getD _ _ _ _ (by rw [HN.out]; omega)]
      have hlt : ((ws.drop pg).take (d + 1)).length = d + 1 := by rw [List.length_take, List.length_drop, HN.out]; have := HQ1.out; omega
      simp only [List.getD_eq_getElem?_getD]
      by_cases hq : q < d + 1
      · rw [List.getElem?_append_left (by omega), List.getElem?_take, if_pos hq, List.getElem?_drop, if_pos hq]
        unfold Bsm.shrw
        rw [if_pos (by omega)]
        simp [List.getD_eq_getElem?_getD, Nat.add_comm]
      · rw [List.getElem?_append_right (by omega), hlt, List.getElem?_drop, if_neg hq]
        congr 2
        omega
  rw [hlist] at hown2
  have hVn : (Bsm.layf (Bsm.shrw ws 0 pg d) ws (d + 1)).length = n := by rw [Bsm.layf_len]; exact HN.out
  have hblk2 : Blk w2 p 76 #[.int .u64 (L : Int), .slice (some ⟨g, 0, none⟩) n cap] := (HRW.out.2.2.1.drew).grown hg2 (by simpa using HRW.out.2.1)
  have x1 : w2.cell? ⟨p, 1, none⟩ = some (.slice (some ⟨g, 0, none⟩) n cap) := hblk2.cell 1 rfl
  have hbs2 : Bs B w2 p L (Bsm.layf (Bsm.shrw ws 0 pg d) ws (d + 1)) cap := by
    refine ⟨g, HRW.out.1, HRW.out.2.1, by rw [hVn]; exact hblk2, by rw [hVn]; exact hown2, fun x hx => ?_⟩
    obtain ⟨i, hi, rfl⟩ := List.getElem_of_mem hx
    have e := Bsm.layf_getD (Bsm.shrw ws 0 pg d) ws (d + 1) i (by rw [HN.out]; omega)
    rw [List.getD_eq_getElem?_getD, List.getElem?_eq_getElem hi, Option.getD_some] at e
    rw [e]
    split
    · exact Bsm.shrw_lt _ _ _ _ _ HWLT.out
    · exact HWLT.out i
  have hbel2 : Below B w w2 := (Below.refl _ _).drew.trans hb2
  have HZST := Lib.hid (And.intro hbs2 (And.intro x1 hbel2))
  clear hown2 hlist hbs2 hblk2 hbel2 hg2 hb2 hVn hvl
  go_wp2_with fail

  have hF0 : ∀ u, d < u → Bsm.shrw ws 0 pg d u = 0 := fun u hu => by unfold Bsm.shrw; rw [if_neg (by omega)]
  have HF0 := Lib.hid hF0
  clear hF0
  go_loopg [11] (n - (d + 1)) (fun k idx wr => ShrLoop (Bsm.shrw ws 0 pg d) B p L ws cap g n w (d + 1) n k idx wr)
  case atStart => exact ⟨d + 1, by go_num, Nat.le_refl _, by omega, HZST.out⟩
  case round =>
    obtain ⟨i, rfl, hdi, hik, hbs, hc, hbel⟩ := hrel
    have hl : (Bsm.layf (Bsm.shrw ws 0 pg d) ws i).length = n := by rw [Bsm.layf_len]; exact HN.out
    by_cases hi : i < n
    · cases gk with
      | zero => omega
      | succ k =>
        have hput := Bs.put hbs (by rw [hl]; exact hc) i 0 (by omega) (by omega)
        have hf := hput.2.2.1
        have hc2 := hput.2.2.2.1
        rw [hl] at hput
        have e : (Bsm.layf (Bsm.shrw ws 0 pg d) ws i).set i 0 = Bsm.layf (Bsm.shrw ws 0 pg d) ws (i + 1) := by simp only [Bsm.layf]; rw [HF0.out i (by omega)]
        rw [e] at hput
        have HP := Lib.hid hput
        clear hbs hput hl e
        go_wp2_with fail
        go_roundg k
        case measure => omega
        case rel => exact ⟨i + 1, by go_num, by omega, by omega, HP.out.1, HP.out.2.2.2.2, hbel.trans HP.out.2.1⟩
    · obtain rfl : i = n := by omega
      go_wp2_with fail
      go_end0
      exact ⟨rfl, _, hbs, by rw [Bsm.layf_len], fun j => by have := HBITS.out j; rwa [HN.out] at this, hbel⟩

set_option maxRecDepth 100000 in
set_option maxHeartbeats 4000000 in
theorem shr_loop (B p L b : Nat) (ws : List Nat) (cap : Nat) (w : World) (hb : Bs B w p L ws cap) (hn9 : ws.length ≤ 1000) (t : Nat) (ht5 : t ≤ 100000) (hbt : b ≤ t) (hb1 : 1 ≤ b) (hb2 : b ≤ 1000) (hm : ¬ b % 64 = 0) (ht : Bsm.bit ws t = true) (hz : ∀ j, t < j → Bsm.bit ws j = false) :
    Calls Try.prog 74 #[.pointer (some ⟨p, 0, none⟩), .int .u64 (b : Int)] w fun e w' => e = .returned (.tuple #[]) ∧
      ∃ ws', Bs B w' p L ws' cap ∧ ws'.length = ws.length ∧ (∀ j, Bsm.bit ws' j = Bsm.bit ws (j + b)) ∧ Below B w w' := by
  obtain ⟨g, c0, c1, c2⟩ := hb.cells
  have hrow : B ≤ p ∧ g ≠ p ∧ Blk w p 76 #[.int .u64 (L : Int), .slice (some ⟨g, 0, none⟩) ws.length cap] ∧ w.ownsRow B 63 1 (.slice (some ⟨g, 0, none⟩) ws.length cap) ws.length (u64s ws) := by
    obtain ⟨g', h1, h2, h3, h4, _⟩ := hb
    have e1 : w.cell? ⟨p, 1, none⟩ = some (.slice (some ⟨g', 0, none⟩) ws.length cap) := h3.cell 1 rfl
    rw [c1] at e1
    simp only [Option.some.injEq, Value.slice.injEq, Addr.mk.injEq, and_true] at e1
    subst e1
    exact ⟨h1, h2, h3, h4⟩
  have HROW := Lib.hid hrow
  clear hrow
  obtain ⟨n, hn⟩ : ∃ n, ws.length = n := ⟨_, rfl⟩
  have hwlt := hb.word_lt
  have hqn : t / 64 < n := by
    rcases Nat.lt_or_ge (t / 64) n with h | h
    · exact h
    · unfold Bsm.bit at ht; rw [List.getD_eq_getElem?_getD, List.getElem?_eq_none (by omega)] at ht; simp at ht
  have hz2 : ∀ q, t / 64 < q → ws.getD q 0 = 0 := fun q hq => Bsm.word_of_bits ws q (hwlt q) fun j hj => hz j (by omega)
  obtain ⟨q0, hq0⟩ : ∃ q0, t / 64 = q0 := ⟨_, rfl⟩
  obtain ⟨pg, hpg⟩ : ∃ pg, b / 64 = pg := ⟨_, rfl⟩
  obtain ⟨s, hs⟩ : ∃ s, b % 64 = s := ⟨_, rfl⟩
  obtain ⟨d, hd⟩ : ∃ d, q0 - pg = d := ⟨_, rfl⟩
  rw [hq0] at hqn hz2
  have hs64 : s < 64 := by omega
  have hpq : pg ≤ q0 := by omega
  have hdn : d < n := by omega
  have hbits := Bsm.shr_bits ws s pg d hwlt hs64 (by omega) (fun q hq => hz2 q (by omega))
  rw [show 64 * pg + s = b from by omega] at hbits
  have e1 : (t : Int) / 64 = (q0 : Int) := by omega
  have e2 : (b : Int) / 64 = (pg : Int) := by omega
  have e3 : (b : Int) % 64 = (s : Int) := by omega
  have e4 : (q0 : Int) - (pg : Int) = (d : Int) := by omega
  have hb0 : ¬ (b : Int) = 0 := by omega
  have hgt : decide ((t : Int) < (b : Int)) = false := by simp; omega
  have HB := Lib.hid hb
  have HZ := Lib.hid hz
  have HT := Lib.hid ht
  have HZ2 := Lib.hid hz2
  have HN := Lib.hid hn
  have HBITS := Lib.hid hbits
  have HWLT := Lib.hid hwlt
  rw [hn] at c1 hn9
  have hs0 : 1 ≤ s := by omega
  have e3' : ((s : Int) == 0) = false := by simp; omega
  clear hb hz ht hz2 hn hbits hwlt c2 hq0 hpg hs hd hm
  go_enter Try.func74, Try.ntmps74
  go_wp2_with fail
  refine (notnull_any _ _).mono ?_
  rintro e w' ⟨rfl, rfl⟩
  go_wp2_with fail
  refine (top_some B p L t ws cap _ HB.out (by rw [HN.out]; exact hn9) HT.out HZ.out).mono ?_
  rintro e w' ⟨rfl, rfl⟩
  go_wp2_with fail
  obtain ⟨pd, hpd⟩ : ∃ pd, t % 64 = pd := ⟨_, rfl⟩
  have e5 : (t : Int) % 64 = (pd : Int) := by omega
  rw [e3, e5, show decide (t < b) = false from by simp; omega]
  have hrow := HROW.out
  rw [HN.out] at hrow
  have hBp := hrow.1
  have HPD := Lib.hid hpd
  clear hrow hpd
  go_loopg [10] (d + 1) (fun k idx wr => ShrLoop (Bsm.shrw ws s pg d) B p L ws cap g n w 0 (d + 1) k idx wr)
  case atStart => exact ⟨0, rfl, Nat.le_refl _, by omega, HB.out, c1, Below.refl _ _⟩
  case round =>
    obtain ⟨i, rfl, _, hik, hbs, hc, hbel⟩ := hrel
    have hl : (Bsm.layf (Bsm.shrw ws s pg d) ws i).length = n := by rw [Bsm.layf_len]; exact HN.out
    have HBS := Lib.hid hbs
    have HL := Lib.hid hl
    have HBEL := Lib.hid hbel
    clear hbs hl hbel
    by_cases hi : i ≤ d
    · cases gk with
      | zero => omega
      | succ k =>
        obtain ⟨A, hA⟩ : ∃ A, i + pg = A := ⟨_, rfl⟩
        have hAn : A < n := by omega
        have hget : ∀ q, i ≤ q → (Bsm.layf (Bsm.shrw ws s pg d) ws i).getD q 0 = ws.getD q 0 := fun q hq => by
          rw [Bsm.layf_getD _ _ _ _ (by rw [HN.out]; omega), if_neg (by omega)]
        have hcX := (Bs.put HBS.out (by rw [HL.out]; exact hc) A 0 (by omega) (by rw [HL.out]; omega)).2.2.2.1
        rw [hget A (by omega)] at hcX
        have hXl := HWLT.out A
        have hYl := HWLT.out (A + 1)
        have hFi : Bsm.shrw ws s pg d i = (ws.getD A 0 / 2 ^ s) ||| (ws.getD (A + 1) 0 * 2 ^ (64 - s) % 18446744073709551616) := by unfold Bsm.shrw; rw [if_pos hi, hA]
        have hput := Bs.put HBS.out (by rw [HL.out]; exact hc) i (Bsm.shrw ws s pg d i) (Bsm.shrw_lt _ _ _ _ _ HWLT.out) (by rw [HL.out]; omega)
        rw [HL.out] at hput
        have hf := hput.2.2.1
        have hci := hput.2.2.2.1
        rw [hget i (Nat.le_refl _)] at hci
        obtain ⟨Z, hZ⟩ : ∃ Z, ws.getD i 0 = Z := ⟨_, rfl⟩
        rw [hZ] at hci
        obtain ⟨V, hV⟩ : ∃ V, Bsm.shrw ws s pg d i = V := ⟨_, rfl⟩
        rw [hV] at hput hFi
        have HV := Lib.hid hV
        clear hZ hV
        have HP := Lib.hid hput
        have hwA : IntKind.i64.wrap ((i : Int) + (pg : Int)) = (A : Int) := by rw [IntKind.wrap_i64]; omega
        have hwp : IntKind.i64.wrap (pg : Int) = (pg : Int) := by rw [IntKind.wrap_i64]; omega
        have hA0 : (0 : Int) ≤ (A : Int) := by omega
        have hA1 : (A : Int) < (n : Int) := by omega
        have hi0 : (0 : Int) ≤ (i : Int) := by omega
        have hi1 : (i : Int) < (n : Int) := by omega
        have hin : i < n := by omega
        have HA := Lib.hid hA
        obtain ⟨X, hX⟩ : ∃ X, ws.getD A 0 = X := ⟨_, rfl⟩
        rw [hX] at hcX hXl hFi
        by_cases hid : i < d
        · obtain ⟨A1, hA1'⟩ : ∃ A1, A + 1 = A1 := ⟨_, rfl⟩
          have hA1n : A1 < n := by omega
          have hcY := (Bs.put HBS.out (by rw [HL.out]; exact hc) A1 0 (by omega) (by rw [HL.out]; omega)).2.2.2.1
          rw [hget A1 (by omega)] at hcY
          rw [hA1'] at hYl hFi
          obtain ⟨Y, hY⟩ : ∃ Y, ws.getD A1 0 = Y := ⟨_, rfl⟩
          rw [hY] at hcY hYl hFi
          have hwA1 : IntKind.i64.wrap ((A : Int) + 1) = (A1 : Int) := by rw [IntKind.wrap_i64]; omega
          have hA10 : (0 : Int) ≤ (A1 : Int) := by omega
          have hA11 : (A1 : Int) < (n : Int) := by omega
          obtain ⟨s2, hs2⟩ : ∃ s2, 64 - s = s2 := ⟨_, rfl⟩
          have hws : IntKind.u64.wrap (64 - (s : Int)) = (s2 : Int) := by rw [IntKind.wrap_u64]; omega
          have hor : bits BinOp.or IntKind.u64 ((X : Int) / 2 ^ s) (IntKind.u64.wrap ((Y : Int) * 2 ^ min s2 64)) = (V : Int) := by
            rw [Nat.min_eq_left (by omega), hFi, ← hs2]
            have h1 : (X : Int) / 2 ^ s = ((X / 2 ^ s : Nat) : Int) := by push_cast; rfl
            have h2 : IntKind.u64.wrap ((Y : Int) * 2 ^ (64 - s)) = ((Y * 2 ^ (64 - s) % 18446744073709551616 : Nat) : Int) := by
              rw [IntKind.wrap_u64, Int.natCast_emod, Int.natCast_mul, Int.natCast_pow]; rfl
            rw [h1, h2]
            exact u64_or_nat _ _ (Nat.lt_of_le_of_lt (Nat.div_le_self _ _) hXl) (Nat.mod_lt _ (by decide))
          have HFI := Lib.hid hFi
          have HS2 := Lib.hid hs2
          have HXL := Lib.hid hXl
          have HYL := Lib.hid hYl
          clear hput hget hX hY hA hA1' hs2 hFi hXl hYl
          go_wp2_with fail
          refine wp_region_still_tail 32 (by kernel_rfl) (by kernel_rfl) ?_
          simp only [List.take_succ_cons, List.take_zero, List.drop_succ_cons, List.drop_zero]
          repeat still_step
          refine wpStill_nil ?_
          change wpList _ _ _ _ _ wr.drew
          go_wp2_with fail
          go_roundg k
          case measure => omega
          case rel =>
            refine ⟨i + 1, by go_num, Nat.zero_le _, by omega, ?_, ?_, (HBEL.out.trans HP.out.2.1).drew⟩
            · have := HP.out.1.drewN 1
              simp only [Bsm.layf]
              rw [HV.out]
              exact this
            · exact HP.out.2.2.2.2
        · obtain rfl : i = d := by omega
          have hY0 : ws.getD (A + 1) 0 = 0 := HZ2.out _ (by omega)
          rw [hY0] at hFi
          have hsh : (X : Int) / 2 ^ min s 64 = (V : Int) := by
            rw [Nat.min_eq_left (by omega), hFi]; simp
          have hsh2 : (X : Int) / 2 ^ s = (V : Int) := by
            rw [hFi]; simp
          clear hput hget hX hA hFi hXl hYl hY0
          go_wp2_with fail
          refine wp_region_still_tail 17 (by kernel_rfl) (by kernel_rfl) ?_
          simp only [List.take_succ_cons, List.take_zero, List.drop_succ_cons, List.drop_zero]
          repeat still_step
          refine wpStill_nil ?_
          change wpList _ _ _ _ _ wr.drew
          go_wp2_with fail
          go_roundg k
          case measure => omega
          case rel =>
            refine ⟨i + 1, by go_num, Nat.zero_le _, by omega, ?_, ?_, (HBEL.out.trans HP.out.2.1).drew⟩
            · have := HP.out.1.drewN 1
              simp only [Bsm.layf]
              rw [HV.out]
              exact this
            · exact HP.out.2.2.2.2
    · obtain rfl : i = d + 1 := by omega
      by_cases hps : pd < s
      · have hX0 : ws.getD q0 0 / 2 ^ s = 0 := by
          apply Nat.div_eq_of_lt
          apply Nat.lt_pow_two_of_testBit
          intro j hj
          by_cases hj64 : j < 64
          · have hpd := HPD.out
            have := HZ.out (64 * q0 + j) (by omega)
            unfold Bsm.bit at this
            rwa [show (64 * q0 + j) / 64 = q0 from by omega, show (64 * q0 + j) % 64 = j from by omega] at this
          · exact Bsm.big_bit _ _ (HWLT.out _) (by omega)
        have hFd : Bsm.shrw ws s pg d d = 0 := by
          unfold Bsm.shrw
          rw [if_pos (Nat.le_refl _), show d + pg = q0 from by omega, hX0, HZ2.out (q0 + 1) (by omega)]
          simp
        have hput := Bs.put HBS.out (by rw [HL.out]; exact hc) d 0 (by omega) (by rw [HL.out]; omega)
        have hset : (Bsm.layf (Bsm.shrw ws s pg d) ws (d + 1)).set d 0 = Bsm.layf (Bsm.shrw ws s pg d) ws (d + 1) := by
          apply Bsm.set_same
          · rw [HL.out]; exact hdn
          · rw [Bsm.layf_getD _ _ _ _ (by rw [HN.out]; omega), if_pos (by omega), hFd]
        have hf := hput.2.2.1
        have hc2 := hput.2.2.2.1
        rw [Bsm.layf_getD _ _ _ _ (by rw [HN.out]; omega), if_pos (by omega), hFd] at hc2
        rw [hset, HL.out] at hput
        have HZST := Lib.hid (And.intro hput.1 (And.intro hput.2.2.2.2 (HBEL.out.trans hput.2.1)))
        have hdi0 : (0 : Int) ≤ (d : Int) := by omega
        clear hput hset hX0 hFd
        go_wp2_with fail
        have hF0 : ∀ u, d < u → Bsm.shrw ws s pg d u = 0 := fun u hu => by unfold Bsm.shrw; rw [if_neg (by omega)]
        have HF0 := Lib.hid hF0
        clear hF0
        go_loopg [11] (n - (d + 1)) (fun k idx wr => ShrLoop (Bsm.shrw ws s pg d) B p L ws cap g n w (d + 1) n k idx wr)
        case atStart => exact ⟨d + 1, by go_num, Nat.le_refl _, by omega, HZST.out⟩
        case round =>
          obtain ⟨i, rfl, hdi, hik, hbs, hc, hbel⟩ := hrel
          have hl : (Bsm.layf (Bsm.shrw ws s pg d) ws i).length = n := by rw [Bsm.layf_len]; exact HN.out
          by_cases hi : i < n
          · cases gk with
            | zero => omega
            | succ k =>
              have hput := Bs.put hbs (by rw [hl]; exact hc) i 0 (by omega) (by omega)
              have hf := hput.2.2.1
              have hc2 := hput.2.2.2.1
              rw [hl] at hput
              have e : (Bsm.layf (Bsm.shrw ws s pg d) ws i).set i 0 = Bsm.layf (Bsm.shrw ws s pg d) ws (i + 1) := by simp only [Bsm.layf]; rw [HF0.out i (by omega)]
              rw [e] at hput
              have HP := Lib.hid hput
              clear hbs hput hl e
              go_wp2_with fail
              go_roundg k
              case measure => omega
              case rel => exact ⟨i + 1, by go_num, by omega, by omega, HP.out.1, HP.out.2.2.2.2, hbel.trans HP.out.2.1⟩
          · obtain rfl : i = n := by omega
            go_wp2_with fail
            go_end0
            exact ⟨rfl, _, hbs, by rw [Bsm.layf_len], fun j => by have := HBITS.out j; rwa [HN.out] at this, hbel⟩
      · have HZST := Lib.hid (And.intro HBS.out (And.intro hc HBEL.out))
        go_wp2_with fail
        have hF0 : ∀ u, d < u → Bsm.shrw ws s pg d u = 0 := fun u hu => by unfold Bsm.shrw; rw [if_neg (by omega)]
        have HF0 := Lib.hid hF0
        clear hF0
        go_loopg [11] (n - (d + 1)) (fun k idx wr => ShrLoop (Bsm.shrw ws s pg d) B p L ws cap g n w (d + 1) n k idx wr)
        case atStart => exact ⟨d + 1, by go_num, Nat.le_refl _, by omega, HZST.out⟩
        case round =>
          obtain ⟨i, rfl, hdi, hik, hbs, hc, hbel⟩ := hrel
          have hl : (Bsm.layf (Bsm.shrw ws s pg d) ws i).length = n := by rw [Bsm.layf_len]; exact HN.out
          by_cases hi : i < n
          · cases gk with
            | zero => omega
            | succ k =>
              have hput := Bs.put hbs (by rw [hl]; exact hc) i 0 (by omega) (by omega)
              have hf := hput.2.2.1
              have hc2 := hput.2.2.2.1
              rw [hl] at hput
              have e : (Bsm.layf (Bsm.shrw ws s pg d) ws i).set i 0 = Bsm.layf (Bsm.shrw ws s pg d) ws (i + 1) := by simp only [Bsm.layf]; rw [HF0.out i (by omega)]
              rw [e] at hput
              have HP := Lib.hid hput
              clear hbs hput hl e
              go_wp2_with fail
              go_roundg k
              case measure => omega
              case rel => exact ⟨i + 1, by go_num, by omega, by omega, HP.out.1, HP.out.2.2.2.2, hbel.trans HP.out.2.1⟩
          · obtain rfl : i = n := by omega
            go_wp2_with fail
            go_end0
            exact ⟨rfl, _, hbs, by rw [Bsm.layf_len], fun j => by have := HBITS.out j; rwa [HN.out] at this, hbel⟩
end Go.Proofs.Ytbgmkojiklphmaa
