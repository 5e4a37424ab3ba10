/- FnFIMany. -/
import Derived.Test.YtdmkijdokmnicaaFiMany
import Derived.Laws.StructEq
import Derived.BigQuiet
import Derived.OpenShut
namespace Go.Proofs.Ytdmkijdokmnicaa
set_option linter.unusedVariables false
open Go.RowKit

theorem info_step : (Try.prog.info? 27).map (fun i => (i.zero, i.size, i.bytes)) = some (some (.agg #[.int .i64 0, .int .u64 0, .int .u64 0]), 3, 24) := by kernel_rfl
def flat3 (xs : List FStep) : List Value := (xs.map stepRow).flatten
theorem flat3_app (xs ys : List FStep) : flat3 (xs ++ ys) = flat3 xs ++ flat3 ys := by simp [flat3]
theorem flat3_one (x : FStep) : flat3 [x] = [.int .i64 x.op, .int .u64 x.key, .int .u64 x.val] := by simp [flat3, stepRow]
theorem rw_flat3 {w : World} {B : Nat} {v : Value} {n : Nat} {xs : List FStep} (h : w.ownsRow B 27 3 v n (flat3 xs)) : Rw 3 w v (xs.map stepRow) := by
  refine Rw.of_owns (rows := xs.map stepRow) (fun r hr => ?_) (by decide) (B := B) (e := 27) (n := n) h
  obtain ⟨e, _, rfl⟩ := List.mem_map.1 hr
  rfl
theorem cnt_le (xs : List FStep) : (fiSt xs).2 ≤ (xs.filter fun x => decide (x.op = 1)).length := by
  suffices ∀ s : FMap × Nat, (xs.foldl fiNext s).2 ≤ s.2 + (xs.filter fun x => decide (x.op = 1)).length by
    have := this ([], 0)
    simpa [fiSt] using this
  induction xs with
  | nil => intro s; simp
  | cons x r ih =>
    intro s
    rw [List.foldl_cons]
    have h := ih (fiNext s x)
    rw [List.filter_cons]
    by_cases hx : x.op = 1
    · have e : (fiNext s x).2 = s.2 + 1 := by simp [fiNext, hx]
      simp [hx]
      omega
    · have e : (fiNext s x).2 ≤ s.2 := by
        unfold fiNext
        rw [if_neg hx]
        split
        · simp only
          split <;> omega
        · exact Nat.le_refl _
      simp [hx]
      omega
def mall (first B : Int) (n : Nat) : List FStep := sets first B n ++ dels first B ((n + 1) / 2) ++ gets first B n ++ [⟨5, 0, 0⟩]
theorem mall_cnt (first B : Int) (n : Nat) : ((mall first B n).filter fun x => decide (x.op = 1)).length = n := by
  have h1 : (sets first B n).filter (fun x => decide (x.op = 1)) = sets first B n := List.filter_eq_self.2 fun x hx => by
    obtain ⟨i, _, rfl⟩ := List.mem_map.1 hx
    rfl
  have h2 : ∀ k, (dels first B k).filter (fun x => decide (x.op = 1)) = [] := fun k => List.filter_eq_nil_iff.2 fun x hx => by
    obtain ⟨i, _, rfl⟩ := List.mem_map.1 hx
    simp [mdel]
  have h3 : (gets first B n).filter (fun x => decide (x.op = 1)) = [] := List.filter_eq_nil_iff.2 fun x hx => by
    obtain ⟨i, _, rfl⟩ := List.mem_map.1 hx
    simp [mget]
  unfold mall
  rw [List.filter_append, List.filter_append, List.filter_append, h1, h2, h3]
  simp [sets]
theorem mall_ops (first B : Int) (n : Nat) : ∀ x ∈ mall first B n, x.op = 1 ∨ x.op = 2 ∨ x.op = 3 ∨ x.op = 4 ∨ x.op = 5 ∨ x.op = 6 := by
  intro x hx
  unfold mall at hx
  simp only [List.mem_append, List.mem_singleton] at hx
  rcases hx with ((hx | hx) | hx) | rfl
  · obtain ⟨i, _, rfl⟩ := List.mem_map.1 hx; exact .inl rfl
  · obtain ⟨i, _, rfl⟩ := List.mem_map.1 hx; exact .inr (.inr (.inr (.inl rfl)))
  · obtain ⟨i, _, rfl⟩ := List.mem_map.1 hx; exact .inr (.inl rfl)
  · exact .inr (.inr (.inr (.inr (.inl rfl))))
theorem mall_len (first B : Int) (n : Nat) : (mall first B n).length = 2 * n + (n + 1) / 2 + 1 := by
  simp [mall, sets, dels, gets]; omega
/-- what a get answers -/
theorem mall_get (first : Int) (B : Nat) (hB : GoodBy B) (n i : Nat) (hn : n ≤ 300) (hi : i < n) (a : Int × Bool)
    (h : fiAns (fiSt ((mall first B n).take (n + (n + 1) / 2 + i))) (fstepAt (mall first B n) (n + (n + 1) / 2 + i)) a) : a = if i % 2 = 1 then ((i : Int) * 7, true) else (0, false) := by
  have e1 : (mall first B n).take (n + (n + 1) / 2 + i) = (sets first B n ++ dels first B ((n + 1) / 2)) ++ gets first B i := by
    unfold mall
    rw [List.append_assoc (sets first B n ++ dels first B ((n + 1) / 2)), List.take_append]
    have hl : (sets first B n ++ dels first B ((n + 1) / 2)).length = n + (n + 1) / 2 := by simp [sets, dels]
    rw [List.take_of_length_le (by rw [hl]; omega), hl, Nat.add_sub_cancel_left]
    congr 1
    rw [List.take_append_of_le_length (by simp [gets]; omega)]
    unfold gets
    rw [← List.map_take, List.take_range]
    congr 1
    rw [Nat.min_eq_left (by omega)]
  have e2 : fstepAt (mall first B n) (n + (n + 1) / 2 + i) = mget first B i := by
    unfold fstepAt mall
    have hl : (sets first B n ++ dels first B ((n + 1) / 2)).length = n + (n + 1) / 2 := by simp [sets, dels]
    rw [List.append_assoc (sets first B n ++ dels first B ((n + 1) / 2)), List.getD_eq_getElem?_getD, List.getElem?_append_right (by rw [hl]; omega), hl, Nat.add_sub_cancel_left, List.getElem?_append_left (by simp [gets]; exact hi)]
    simp [gets, hi]
  rw [e1, e2, st_gets] at h
  obtain ⟨h1, h2, h3⟩ := st_dels first B hB n hn ((n + 1) / 2) (by omega)
  have hg := h3 i (by omega)
  have e3 : (mget first B i).op = 2 := rfl
  have e4 : (mget first B i).key = mkey first B i := rfl
  simp only [fiAns, e3, e4, if_true] at h
  rw [hg] at h
  obtain ⟨a1, a2⟩ := a
  simp only at h
  by_cases hodd : i % 2 = 1
  · rw [if_pos ⟨hi, by omega⟩] at h
    rw [if_pos hodd]
    simp [valOf] at h
    rw [h.1, h.2]
  · rw [if_neg (by omega)] at h
    rw [if_neg hodd]
    simp [valOf] at h
    rw [h.1, h.2]
theorem mall_last (first : Int) (B : Nat) (hB : GoodBy B) (n : Nat) (hn : n ≤ 300) (a : Int × Bool)
    (h : fiAns (fiSt ((mall first B n).take (2 * n + (n + 1) / 2))) (fstepAt (mall first B n) (2 * n + (n + 1) / 2)) a) : a.1 = ((n / 2 : Nat) : Int) := by
  have hl : (sets first B n ++ dels first B ((n + 1) / 2) ++ gets first B n).length = 2 * n + (n + 1) / 2 := by simp [sets, dels, gets]; omega
  have e1 : (mall first B n).take (2 * n + (n + 1) / 2) = sets first B n ++ dels first B ((n + 1) / 2) ++ gets first B n := by
    unfold mall
    rw [← hl, List.take_left]
  have e2 : fstepAt (mall first B n) (2 * n + (n + 1) / 2) = ⟨5, 0, 0⟩ := by
    unfold fstepAt mall
    rw [List.getD_eq_getElem?_getD, ← hl, List.getElem?_append_right (Nat.le_refl _)]
    simp
  rw [e1, e2, st_gets] at h
  obtain ⟨h1, _⟩ := st_dels first B hB n hn ((n + 1) / 2) (by omega)
  simp [fiAns] at h
  rw [h.1, h1]
  omega

theorem or_one (x : Int) : ∃ N : Nat, bits .or .u64 x 1 = (N : Int) ∧ N % 2 = 1 := by
  refine ⟨((BitVec.ofInt 64 x) ||| (BitVec.ofInt 64 1)).toNat, ?_, ?_⟩
  · have hb : bits .or .u64 x 1 = IntKind.u64.wrap (((BitVec.ofInt 64 x) ||| (BitVec.ofInt 64 1)).toNat : Int) := rfl
    rw [hb]
    have hlt := ((BitVec.ofInt 64 x) ||| (BitVec.ofInt 64 1)).isLt
    obtain ⟨z, hz⟩ : ∃ z, ((BitVec.ofInt 64 x) ||| (BitVec.ofInt 64 1)).toNat = z := ⟨_, rfl⟩
    rw [hz] at hlt ⊢
    simp only [IntKind.wrap, IntKind.bits, IntKind.signed]
    simp
    omega
  · rw [BitVec.toNat_or]
    have h1 : (BitVec.ofInt 64 1).toNat = 1 := by decide
    rw [h1]
    have h : Nat.testBit ((BitVec.ofInt 64 x).toNat ||| 1) 0 = true := by rw [Nat.testBit_or]; simp
    rw [Nat.testBit_zero] at h
    simp at h ⊢
def ansAt (xs : List (Int × Bool)) (i : Nat) : Int × Bool := xs.getD i (0, false)
theorem ans_some {xs : List (Int × Bool)} {i : Nat} (h : i < xs.length) : xs[i]? = some (ansAt xs i) := by simp [ansAt, h]
theorem ansrow_at {xs : List (Int × Bool)} {i : Nat} (h : i < xs.length) : (xs.map ansRow)[i]? = some (ansRow (ansAt xs i)) := by simp [ansAt, h]
/-- the answers' cells -/
theorem Rw.answers {w : World} {v : Value} {xs : List (Int × Bool)} {n : Nat} (h : Rw 2 w v (xs.map ansRow)) (hn : xs.length = n) (h0 : 0 < n) : ∃ b off cap, v = .slice (some ⟨b, off, none⟩) n cap ∧ n ≤ maxLen ∧ ∀ i, i < n → w.cell? ⟨b, off + i * 2, none⟩ = some (.int .u64 (ansAt xs i).1) ∧ w.cell? ⟨b, off + i * 2 + 1, none⟩ = some (.bool (ansAt xs i).2) := by
  obtain ⟨a, m, c, rfl, h1, h2, h3, h4⟩ := h
  rw [List.length_map, hn] at h1
  subst h1
  obtain ⟨b, off, rfl, h5⟩ := h4 h0
  refine ⟨b, off, c, rfl, by omega, fun i hi => ?_⟩
  have hr := ansrow_at (xs := xs) (i := i) (by omega)
  exact ⟨h5 i _ hr 0 _ rfl, h5 i _ hr 1 _ rfl⟩
def ManyLoop (xs : Nat → List FStep) (len : Nat → Nat) (ix : Nat → Int) (tot : Nat) (w : World) (k : Nat) (out idx : Value) (wr : World) : Prop :=
  ∃ (i : Nat) (p : Option Addr) (cap : Nat), out = .slice p (len i) cap ∧ idx = .int .i64 (ix i) ∧ i + k = tot ∧ wr.ownsRow w.heap.size 27 3 (.slice p (len i) cap) (len i) (flat3 (xs i)) ∧ Below w.heap.size w wr
def GoodI (b : Int) : Prop := ∃ N : Nat, b = (N : Int) ∧ GoodBy N
def InU64 (b : Int) : Prop := 0 ≤ b ∧ b < 18446744073709551616
def ByCut (w : World) (v2 : Value) (wx : World) : Prop := ∃ b : Int, v2 = .int .u64 b ∧ GoodI b ∧ wx = w
def NzCut (w : World) (v2 : Value) (wx : World) : Prop := ∃ b : Int, v2 = .int .u64 b ∧ InU64 b ∧ b ≠ 0 ∧ wx = w

set_option maxRecDepth 100000 in
set_option maxHeartbeats 8000000 in
theorem law_fimany (F : Int → Nat) (hF : HomeIs F) (hint first by_ many : Int) (w : World) (h0 : 0 ≤ hint) (h1 : hint < 65536) (hB : InU64 by_) (hm0 : 0 ≤ many) (hm1 : many < 65536) :
    Calls Try.prog 3 #[.int .u16 hint, .int .u64 first, .int .u64 by_, .int .u16 many] w fun e w' => e = .returned (.bool true) ∧ Below w.heap.size w w' := by
  go_enter Try.func3, Try.ntmps3
  go_upto_if 22 with fail
  go_cut [2] (fun v2 wx => NzCut w v2 wx)
  case first =>
    by_cases hz : by_ = 0
    · subst hz
      have hb : ((0 : Int) == 0) = true := by simp
      go_wp2_with fail
      go_meet
      exact ⟨1, rfl, ⟨by decide, by decide⟩, by decide, rfl⟩
    · have hb : (by_ == 0) = false := by simpa using hz
      have HB := Lib.hid hB
      have HZ := Lib.hid hz
      clear hB hz
      go_wp2_with fail
      go_meet
      exact ⟨by_, rfl, HB.out, HZ.out, rfl⟩
  case rest =>
    obtain ⟨b, rfl, hb, hnz, hw1⟩ := hcut
    rw [hw1]
    clear hw1
    have HB := Lib.hid hb
    have HNZ := Lib.hid hnz
    clear hB hb hnz
    go_upto_if 25 with fail
    go_cut [2] (fun v2 wx => ByCut w v2 wx)
    case first =>
      by_cases hz : IntKind.u64.wrap (b * 512) = 0
      · have hb : (IntKind.u64.wrap (b * 512) == 0) = true := by simpa using hz
        have HZ := Lib.hid hz
        clear hz
        have hbi0 := HB.out.1
        have hbi1 := HB.out.2
        go_wp2_with fail
        go_meet
        obtain ⟨N, hN1, hN2⟩ := or_one (b / 2)
        exact ⟨_, rfl, ⟨N, hN1, good_odd N hN2⟩, rfl⟩
      · have hb : (IntKind.u64.wrap (b * 512) == 0) = false := by simpa using hz
        have HZ := Lib.hid hz
        clear hz
        go_wp2_with fail
        go_meet
        refine ⟨b, rfl, ⟨b.toNat, ?_, good_of _ ?_⟩, rfl⟩
        · have := HB.out.1; omega
        · intro h
          apply HZ.out
          have h2 : b = ((b.toNat : Nat) : Int) := by have := HB.out.1; omega
          simp only [IntKind.wrap, IntKind.bits, IntKind.signed]
          rw [h2]
          obtain ⟨z, hz⟩ : ∃ z, b.toNat = z := ⟨_, rfl⟩
          rw [hz] at h ⊢
          simp
          omega
    case rest =>
      obtain ⟨B, rfl, hg, hw⟩ := hcut
      rw [hw]
      clear hw
      clear HB HNZ
      have HG := Lib.hid hg
      obtain ⟨n, hn⟩ : ∃ n : Nat, many % 301 = (n : Int) := ⟨(many % 301).toNat, by omega⟩
      have hn3 : n ≤ 300 := by omega
      have hni : (n : Int) ≤ 300 := by omega
      rw [hn]
      clear hg hn hm0 hm1
      go_wp2_with fail
      go_loopg [10, 11] n (fun k out idx wr => ManyLoop (sets first B) id (fun i => (i : Int)) n w k out idx wr)
      case atStart => exact ⟨0, none, 0, rfl, rfl, by omega, by simpa [sets, flat3] using World.ownsRow_nil _ _ _ _, Below.refl _ _⟩
      case round =>
        obtain ⟨i, p, cap, rfl, rfl, hik, hown, hbel⟩ := hrel
        simp only [id] at hown ⊢
        have HO := Lib.hid hown
        have HB := Lib.hid hbel
        have hsz := hbel.size
        clear hown hbel
        cases gk with
        | succ k =>
          have hin : (i : Int) < (n : Int) := by omega
          have hi0 : (0 : Int) ≤ (i : Int) := by omega
          have hmx : i + 1 ≤ maxLen := by unfold maxLen; omega
          go_wp2_with (at_builtin; refine wpList_appendS rfl _ _ 25 rfl w.heap.size 3 27 (.agg #[.int .i64 0, .int .u64 0, .int .u64 0]) 24 Try.underlying25 info_step rfl (by decide) _ (i) _ rfl HO.out #[.int .i64 1, .int .u64 (IntKind.u64.wrap (first + IntKind.u64.wrap ((i : Int) * B))), .int .u64 ((i : Int) * 7)] rfl rfl (by simp [Value.oneCell']) hmx (by omega) hsz ?_; intro g cap1 w1 hown1 hg1 hb1)
          go_roundg k
          case measure => omega
          case rel =>
            refine ⟨i + 1, _, _, rfl, by go_num, by omega, ?_, HB.out.trans hb1⟩
            rw [sets_succ, flat3_app, flat3_one]
            exact hown1
        | zero =>
          obtain rfl : i = n := by omega
          have hd : decide ((i : Int) < (i : Int)) = false := by simp
          obtain ⟨n, hn⟩ : ∃ n, n = i := ⟨_, rfl⟩
          rw [← hn] at HO hni hn3 ⊢
          clear hn hik
          have hd : decide ((n : Int) < (n : Int)) = false := by simp
          go_wp2_with fail
          obtain ⟨K, hK⟩ : ∃ K, K = (n + 1) / 2 := ⟨_, rfl⟩
          have hK9 : K ≤ 151 := by omega
          have HK := Lib.hid hK
          clear hK
          have HO1 := Lib.hid HO.out
          have HB1 := Lib.hid HB.out
          clear HO HB
          go_loopg [10, 12] K (fun k out idx wr => ManyLoop (fun i => sets first B n ++ dels first B i) (fun i => n + i) (fun i => ((2 * i : Nat) : Int)) K w k out idx wr)
          case atStart => exact ⟨0, p, cap, rfl, rfl, by omega, by simpa [dels] using HO1.out, HB1.out⟩
          case round =>
            obtain ⟨i, p, cap, rfl, rfl, hik, hown, hbel⟩ := hrel
            dsimp only at hown ⊢
            have HO := Lib.hid hown
            have HB := Lib.hid hbel
            have hsz := hbel.size
            clear hown hbel
            cases gk with
            | succ k =>
              have hin : ((2 * i : Nat) : Int) < (n : Int) := by have := HK.out; omega
              have hi0 : (0 : Int) ≤ ((2 * i : Nat) : Int) := by omega
              have hi9 : ((2 * i : Nat) : Int) ≤ 301 := by have := HK.out; omega
              have hmx : n + i + 1 ≤ maxLen := by have := HK.out; unfold maxLen; omega
              obtain ⟨q, hq⟩ : ∃ q, 2 * i = q := ⟨_, rfl⟩
              rw [hq] at hin hi0 hi9 ⊢
              have HQ := Lib.hid hq
              clear hq
              go_wp2_with (at_builtin; refine wpList_appendS rfl _ _ 25 rfl w.heap.size 3 27 (.agg #[.int .i64 0, .int .u64 0, .int .u64 0]) 24 Try.underlying25 info_step rfl (by decide) _ (n + i) _ rfl HO.out #[.int .i64 4, .int .u64 (IntKind.u64.wrap (first + IntKind.u64.wrap ((q : Int) * B))), .int .u64 (0)] rfl rfl (by simp [Value.oneCell']) hmx (by omega) hsz ?_; intro g cap1 w1 hown1 hg1 hb1)
              go_roundg k
              case measure => omega
              case rel =>
                refine ⟨i + 1, _, _, rfl, ?_, by omega, ?_, HB.out.trans hb1⟩
                · have := HQ.out
                  dsimp only
                  rw [show ((2 * (i + 1) : Nat) : Int) = (q : Int) + 2 by omega]
                · dsimp only
                  rw [dels_succ, ← List.append_assoc, flat3_app, flat3_one]
                  simp only [mdel]
                  rw [HQ.out]
                  exact hown1
            | zero =>
              have hiK : i = K := by omega
              subst hiK
              have hd2 : decide (((2 * i : Nat) : Int) < (n : Int)) = false := by have := HK.out; simp; omega
              have hln : n + i ≤ 500 := by have := HK.out; omega
              have hlni : ((n + i : Nat) : Int) ≤ 500 := by omega
              obtain ⟨q, hq⟩ : ∃ q, ((2 * i : Nat) : Int) = q := ⟨_, rfl⟩
              rw [hq] at hd2 ⊢
              clear hq hik
              go_wp2_with fail
              have HO1 := Lib.hid HO.out
              have HB1 := Lib.hid HB.out
              clear HO HB hd2
              go_loopg [10, 14] n (fun k out idx wr => ManyLoop (fun t => sets first B n ++ dels first B i ++ gets first B t) (fun t => n + i + t) (fun t => (t : Int)) n w k out idx wr)
              case atStart => exact ⟨0, p, cap, rfl, rfl, by omega, by simpa [gets] using HO1.out, HB1.out⟩
              case round =>
                obtain ⟨t, p, cap, rfl, rfl, htk, hown, hbel⟩ := hrel
                dsimp only at hown ⊢
                have HO := Lib.hid hown
                have HB := Lib.hid hbel
                have hsz := hbel.size
                clear hown hbel
                have hmx : n + i + t + 1 ≤ maxLen := by unfold maxLen; omega
                cases gk with
                | succ k =>
                  have hin : (t : Int) < (n : Int) := by omega
                  have hi0 : (0 : Int) ≤ (t : Int) := by omega
                  go_wp2_with (at_builtin; refine wpList_appendS rfl _ _ 25 rfl w.heap.size 3 27 (.agg #[.int .i64 0, .int .u64 0, .int .u64 0]) 24 Try.underlying25 info_step rfl (by decide) _ (n + i + t) _ rfl HO.out #[.int .i64 2, .int .u64 (IntKind.u64.wrap (first + IntKind.u64.wrap ((t : Int) * B))), .int .u64 (0)] rfl rfl (by simp [Value.oneCell']) hmx (by omega) hsz ?_; intro g cap1 w1 hown1 hg1 hb1)
                  go_roundg k
                  case measure => omega
                  case rel =>
                    refine ⟨t + 1, _, _, rfl, by go_num, by omega, ?_, HB.out.trans hb1⟩
                    dsimp only
                    rw [gets_succ, ← List.append_assoc, flat3_app, flat3_one]
                    exact hown1
                | zero =>
                  have htn : t = n := by omega
                  subst htn
                  have hd3 : decide ((t : Int) < (t : Int)) = false := by simp
                  clear htk
                  have hlen : t + i + t + 1 = (mall first B t).length := by
                    rw [mall_len]; have := HK.out; omega
                  obtain ⟨h, hh⟩ : ∃ h : Nat, (hint % 601 : Int) = (h : Int) := ⟨(hint % 601).toNat, by omega⟩
                  have hh6 : h ≤ 600 := by omega
                  have HH := Lib.hid hh
                  have HLEN := Lib.hid hlen
                  clear hlen hh
                  go_wp2_with (at_builtin; refine wpList_appendS rfl _ _ 25 rfl w.heap.size 3 27 (.agg #[.int .i64 0, .int .u64 0, .int .u64 0]) 24 Try.underlying25 info_step rfl (by decide) _ (t + i + t) _ rfl HO.out #[.int .i64 5, .int .u64 (0), .int .u64 (0)] rfl rfl (by simp [Value.oneCell']) hmx (by omega) hsz ?_; intro g cap1 w1 hown1 hg1 hb1)
                  have HB1 := Lib.hid (HB.out.trans hb1)
                  have hu : Rw 3 w1 (.slice (some ⟨g, 0, none⟩) (t + i + t + 1) cap1) ((mall first B t).map stepRow) := by
                    refine rw_flat3 (B := w.heap.size) (n := t + i + t + 1) ?_
                    unfold mall
                    rw [flat3_app _ [⟨5, 0, 0⟩], flat3_one, ← HK.out]
                    exact hown1
                  obtain ⟨N, rfl, hgood⟩ := HG.out
                  have hx := firun_any F hF h _ (mall first N t) (t + i + t + 1) w1 (by omega) hu HLEN.out.symm (by omega) (mall_ops _ _ _) (fun j _ => by
                    refine Nat.le_trans (cnt_le _) ?_
                    have := (List.take_sublist j (mall first N t)).filter (fun x => decide (x.op = 1))
                    have := this.length_le
                    rw [mall_cnt] at this
                    omega)
                  rw [← HH.out] at hx
                  refine hx.mono ?_
                  intro e w2 hpost
                  obtain ⟨v', ans, rfl, hrw, hal, hans, hb2⟩ := hpost
                  obtain ⟨gb, go, gc, rfl, hgm, hgc⟩ := hrw.answers hal (by omega)
                  have hlast := hans (t + i + t) _ (ans_some (by omega))
                  rw [show t + i + t = 2 * t + (t + 1) / 2 by have := HK.out; omega] at hlast
                  have hlast := mall_last first N hgood t hn3 _ hlast
                  rw [show 2 * t + (t + 1) / 2 = t + i + t by have := HK.out; omega] at hlast
                  have hget : ∀ j, j < t → ansAt ans (t + i + j) = if j % 2 = 1 then ((j : Int) * 7, true) else (0, false) := fun j hj => by
                    have h1 := hans (t + i + j) _ (ans_some (by omega))
                    rw [show t + i + j = t + (t + 1) / 2 + j by have := HK.out; omega] at h1 ⊢
                    exact mall_get first N hgood t j hn3 hj _ h1
                  have hlc := (hgc (t + i + t) (by omega)).1
                  rw [hlast] at hlc
                  have HGC := Lib.hid hgc
                  have HGET := Lib.hid hget
                  have HB2 := Lib.hid (HB1.out.trans (hb2.mono HB1.out.size))
                  clear hgc hget hlast hb2 HB1 hans hal hx hu hown1 hb1 hg1 hrw HO
                  have hli : ((t + i + t : Nat) : Int) ≤ 1000 := by omega
                  obtain ⟨j, hj⟩ : ∃ j, t + i + t = j := ⟨_, rfl⟩
                  rw [hj] at hlc hgm hli ⊢
                  have HJ := Lib.hid hj
                  clear hj
                  have hnb : (((j + 1 : Nat) : Int) != ((j + 1 : Nat) : Int)) = false := by simp
                  have hq : Int.tdiv (t : Int) 2 = ((t / 2 : Nat) : Int) := rfl
                  go_wp2_with fail
                  go_loopg [16, 17] t (fun k idx bx wr => ∃ i : Nat, idx = .int .i64 (i : Int) ∧ i + k = t ∧ Below w2.heap.size w2 wr)
                  case atStart => exact ⟨0, rfl, by omega, Below.refl _ _⟩
                  case round =>
                    obtain ⟨m, rfl, hmk, hbel⟩ := hrel
                    have HBE := Lib.hid hbel
                    have hsz2 := hbel.size
                    clear hbel
                    cases gk with
                    | zero =>
                      have hmt : m = t := by omega
                      subst hmt
                      clear hmk
                      have hd4 : decide ((m : Int) < (m : Int)) = false := by simp
                      go_wp2_with fail
                      go_ret
                      exact ⟨rfl, HB2.out.trans (HBE.out.mono HB2.out.size)⟩
                    | succ k =>
                      have hmt : (m : Int) < (t : Int) := by omega
                      have hg := HGET.out m (by omega)
                      have hc := HGC.out (t + i + m) (by have := HJ.out; omega)
                      rw [hg] at hc
                      have hlt := World.block_lt_of_cell? _ _ hc.1
                      have hc1 := (HBE.out.cell (p := ⟨gb, go + (t + i + m) * 2, none⟩) hlt).trans hc.1
                      have hc2 := (HBE.out.cell (p := ⟨gb, go + (t + i + m) * 2 + 1, none⟩) hlt).trans hc.2
                      have hlt := Nat.lt_of_lt_of_le hlt hsz2
                      have hx0 : (0 : Int) ≤ (t : Int) + (i : Int) + (m : Int) := by omega
                      have hx1 : (t : Int) + (i : Int) + (m : Int) < (j : Int) + 1 := by have := HJ.out; omega
                      have hx2 : ((t : Int) + (i : Int) + (m : Int)).toNat = t + i + m := by omega
                      by_cases hodd : m % 2 = 1
                      · rw [if_pos hodd] at hc1 hc2
                        have hm2 : (Int.tmod (m : Int) 2 == 1) = true := by
                          have e : Int.tmod (m : Int) 2 = ((m % 2 : Nat) : Int) := rfl
                          rw [e, hodd]; rfl
                        go_wp2_with fail
                        go_quiet (fail)
                        go_wp2_with fail
                        go_roundg k
                        case measure => omega
                        case rel => exact ⟨m + 1, by go_num, by omega, Below.trans (HBE.out.alloc hsz2 _) ⟨rfl, rfl, rfl, Nat.le_refl _, fun _ _ => rfl⟩⟩
                      · rw [if_neg hodd] at hc1 hc2
                        have hm2 : (Int.tmod (m : Int) 2 == 1) = false := by
                          have e : Int.tmod (m : Int) 2 = ((m % 2 : Nat) : Int) := rfl
                          rw [e]; simp; omega
                        go_wp2_with fail
                        go_quiet (fail)
                        go_wp2_with fail
                        go_roundg k
                        case measure => omega
                        case rel => exact ⟨m + 1, by go_num, by omega, Below.trans (HBE.out.alloc hsz2 _) ⟨rfl, rfl, rfl, Nat.le_refl _, fun _ _ => rfl⟩⟩
theorem law_fimany' (hint first by_ many : Int) (w : World) (w0 : (Lit.int .u16 hint).wf = true) (w1 : (Lit.int .u64 first).wf = true) (w2 : (Lit.int .u64 by_).wf = true) (w3 : (Lit.int .u16 many).wf = true) :
    Calls Try.prog 3 #[.int .u16 hint, .int .u64 first, .int .u64 by_, .int .u16 many] w fun e w' => e = .returned (.bool true) ∧ Below w.heap.size w w' := by
  have b0 := bounds_u16 w0
  have b2 := bounds_u64 w2
  have b3 := bounds_u16 w3
  obtain ⟨F, hF⟩ := fihome_ex
  exact law_fimany F hF hint first by_ many w (by omega) (by omega) ⟨by omega, by omega⟩ (by omega) (by omega)
end Go.Proofs.Ytdmkijdokmnicaa
