/- The walks of spec.BSOf and spec.BSTwo. -/
import Derived.Test.YtbgmkojiklphmaaBsBools
import Derived.Test.YtbgmkojiklphmaaBsSet
namespace Go.Proofs.Ytbgmkojiklphmaa
set_option linter.unusedVariables false
open Go.RowKit

set_option maxRecDepth 100000 in
set_option maxHeartbeats 400000 in
theorem of_any (v : Value) (bs : List Bool) (i : Nat) (w : World) (hv : Sl w v (bools bs)) (hn : bs.length ≤ 100000) (hi : i ≤ 100000) :
    Calls Try.prog 67 #[v, .int .i64 (i : Int)] w fun e w' => e = .returned (.bool (bs.getD i false)) ∧ w' = w := by
  obtain ⟨a, n, cap, rfl, hl, hc, hm, hr⟩ := hv
  rw [bools_len] at hl
  have HL := Lib.hid hl
  by_cases hi2 : i < n
  · obtain ⟨b, off, rfl, hcell⟩ := hr (by omega)
    have h1 := hcell i _ (bools_at bs i (by omega))
    obtain ⟨X, hX⟩ : ∃ X, bs.getD i false = X := ⟨_, rfl⟩
    rw [hX] at h1 ⊢
    clear hr hcell hl hX hm hc hn
    go_enter Try.func67, Try.ntmps67
    go_wp2_with fail
    go_ret
    exact ⟨rfl, rfl⟩
  · rw [Bsm.getD_out bs i (by omega)]
    clear hr hl hm hc hn
    go_enter Try.func67, Try.ntmps67
    go_wp2_with fail
    go_ret
    exact ⟨rfl, rfl⟩

/-- how 0 one of both, 1 both, 2 the first alone, 3 just one of both -/
def two (how : Nat) (x y : Bool) : Bool := if how = 1 then x && y else if how = 2 then x && !y else if how = 3 then x != y else x || y
def twos (how : Nat) (xs ys : List Bool) : List Bool := (List.range (max xs.length ys.length)).map fun j => two how (xs.getD j false) (ys.getD j false)
theorem twos_len (how : Nat) (xs ys : List Bool) : (twos how xs ys).length = max xs.length ys.length := by simp [twos]
theorem twos_get (how : Nat) (xs ys : List Bool) (hh : how ≤ 3) (j : Nat) : (twos how xs ys).getD j false = two how (xs.getD j false) (ys.getD j false) := by
  unfold twos
  simp only [List.getD_eq_getElem?_getD, List.getElem?_map, List.getElem?_range']
  by_cases h : j < max xs.length ys.length
  · simp [h]
  · rw [List.getElem?_eq_none (l := xs) (by omega), List.getElem?_eq_none (l := ys) (by omega)]
    have h3 : how = 0 ∨ how = 1 ∨ how = 2 ∨ how = 3 := by omega
    rcases h3 with rfl | rfl | rfl | rfl <;> simp [two, h]

def TwoLoop (cs : List Bool) (w : World) (n k : Nat) (out idx : Value) (wr : World) : Prop :=
  ∃ (i : Nat) (p : Option Addr) (m cap : Nat), out = .slice p m cap ∧ idx = .int .i64 (i : Int) ∧ i + k = n ∧
    wr.ownsRow w.heap.size 22 1 (.slice p m cap) (Bsm.posn cs i).length (u64s (Bsm.posn cs i)) ∧ Below w.heap.size w wr

set_option maxRecDepth 100000 in
set_option maxHeartbeats 8000000 in
theorem two_any (v u : Value) (xs ys : List Bool) (how : Nat) (w : World) (hv : Sl w v (bools xs)) (hu : Sl w u (bools ys)) (hn : xs.length ≤ 10000) (hn2 : ys.length ≤ 10000) (hh : how ≤ 3) :
    Calls Try.prog 37 #[v, u, .int .i64 (how : Int)] w
      fun e w' => ∃ v', e = .returned v' ∧ w'.ownsRow w.heap.size 22 1 v' (Bsm.pos (twos how xs ys)).length (u64s (Bsm.pos (twos how xs ys))) ∧ Below w.heap.size w w' := by
  have HV := Lib.hid hv
  have HU := Lib.hid hu
  obtain ⟨a, m, cap, rfl, hl, _⟩ := hv
  obtain ⟨a2, m2, cap2, rfl, hl2, _⟩ := hu
  rw [bools_len] at hl hl2
  obtain ⟨N, hN⟩ : ∃ N, max m m2 = N := ⟨_, rfl⟩
  have hN2 : N ≤ 10000 := by omega
  have HN := Lib.hid hN
  have HP : Hid (Bsm.pos (twos how xs ys) = Bsm.posn (twos how xs ys) N) := by unfold Bsm.pos; rw [twos_len, hl, hl2, hN]; exact rfl
  have HG := Lib.hid (twos_get how xs ys hh)
  have HL1 : Hid (xs.length ≤ 100000) := show _ from (by omega : xs.length ≤ 100000)
  have HL2 : Hid (ys.length ≤ 100000) := show _ from (by omega : ys.length ≤ 100000)
  obtain ⟨cs, hcs⟩ : ∃ cs, twos how xs ys = cs := ⟨_, rfl⟩
  rw [hcs] at HP HG ⊢
  clear hl hl2 hN hn hn2 hcs
  have h3 : how = 0 ∨ how = 1 ∨ how = 2 ∨ how = 3 := by omega
  rcases h3 with rfl | rfl | rfl | rfl
  · go_enter Try.func37, Try.ntmps37
    go_wp2_with fail
    go_loopg [7, 8] N (fun k o idx wr => TwoLoop cs w N k o idx wr)
    case atStart => exact ⟨0, none, 0, 0, rfl, rfl, by omega, World.ownsRow_nil _ _ _ _, Below.refl _ _⟩
    case round =>
      obtain ⟨i, p, l, cp, rfl, rfl, hik, hown, hbel⟩ := hrel
      have HO := Lib.hid hown
      have hsz := hbel.size
      clear hown
      have hNN := HN.out
      by_cases hi : i < N
      · have hi2 : i ≤ 100000 := by omega
        have hpl := Bsm.posn_len cs i
        have hm1 : (Bsm.posn cs i).length + 1 ≤ maxLen := by unfold maxLen; omega
        have HM1 := Lib.hid hm1
        have HM2 : Hid (((Bsm.posn cs i).length + 1) * 8 ≤ 140737488355328) := show _ from (by omega : ((Bsm.posn cs i).length + 1) * 8 ≤ 140737488355328)
        clear hm1 hpl
        cases gk with
        | zero => omega
        | succ k =>
          by_cases him : i < m
          · have hg := HG.out i
            obtain ⟨x, hx⟩ : ∃ x, xs.getD i false = x := ⟨_, rfl⟩
            obtain ⟨y, hy⟩ : ∃ y, ys.getD i false = y := ⟨_, rfl⟩
            rw [hx, hy] at hg
            have HX := Lib.hid hx
            have HY := Lib.hid hy
            clear hx hy
            cases x <;> cases y
            · have HZ : Hid (cs.getD i false = false) := hg
              clear hg
              go_wp2_with fail
              refine (of_any _ xs i _ (HV.out.below rfl hbel) HL1.out hi2).mono ?_
              rintro e w' ⟨rfl, rfl⟩
              rw [HX.out]
              go_wp2_with fail
              refine (of_any _ ys i _ (HU.out.below rfl hbel) HL2.out hi2).mono ?_
              rintro e w' ⟨rfl, rfl⟩
              rw [HY.out]
              go_wp2_with fail
              go_roundg k
              case measure => omega
              case rel =>
                have e : Bsm.posn cs (i + 1) = Bsm.posn cs i := by simp only [Bsm.posn]; rw [HZ.out]; simp
                exact ⟨i + 1, p, l, cp, rfl, by go_num, by omega, by rw [e]; exact HO.out, hbel⟩
            · have HZ : Hid (cs.getD i false = true) := hg
              clear hg
              go_wp2_with fail
              refine (of_any _ xs i _ (HV.out.below rfl hbel) HL1.out hi2).mono ?_
              rintro e w' ⟨rfl, rfl⟩
              rw [HX.out]
              go_wp2_with fail
              refine (of_any _ ys i _ (HU.out.below rfl hbel) HL2.out hi2).mono ?_
              rintro e w' ⟨rfl, rfl⟩
              rw [HY.out]
              go_wp2_with (at_builtin; refine wpList_append1 rfl _ _ 23 rfl w.heap.size 22 (.int .u64 0) 8 Try.underlying23 info_u64 rfl _ (Bsm.posn cs i).length (u64s (Bsm.posn cs i)) rfl HO.out _ rfl rfl HM1.out HM2.out hsz ?_; intro g cap1 w1 hown1 hg1 hb1)
              go_roundg k
              case measure => omega
              case rel =>
                have e : Bsm.posn cs (i + 1) = Bsm.posn cs i ++ [i] := by simp only [Bsm.posn]; rw [HZ.out]; simp
                refine ⟨i + 1, some ⟨g, 0, none⟩, _, cap1, rfl, by go_num, by omega, ?_, hbel.trans hb1⟩
                rw [e, u64s_append, List.length_append]
                exact hown1
            · have HZ : Hid (cs.getD i false = true) := hg
              clear hg
              go_wp2_with fail
              refine (of_any _ xs i _ (HV.out.below rfl hbel) HL1.out hi2).mono ?_
              rintro e w' ⟨rfl, rfl⟩
              rw [HX.out]
              go_wp2_with fail
              refine (of_any _ ys i _ (HU.out.below rfl hbel) HL2.out hi2).mono ?_
              rintro e w' ⟨rfl, rfl⟩
              rw [HY.out]
              go_wp2_with (at_builtin; refine wpList_append1 rfl _ _ 23 rfl w.heap.size 22 (.int .u64 0) 8 Try.underlying23 info_u64 rfl _ (Bsm.posn cs i).length (u64s (Bsm.posn cs i)) rfl HO.out _ rfl rfl HM1.out HM2.out hsz ?_; intro g cap1 w1 hown1 hg1 hb1)
              go_roundg k
              case measure => omega
              case rel =>
                have e : Bsm.posn cs (i + 1) = Bsm.posn cs i ++ [i] := by simp only [Bsm.posn]; rw [HZ.out]; simp
                refine ⟨i + 1, some ⟨g, 0, none⟩, _, cap1, rfl, by go_num, by omega, ?_, hbel.trans hb1⟩
                rw [e, u64s_append, List.length_append]
                exact hown1
            · have HZ : Hid (cs.getD i false = true) := hg
              clear hg
              go_wp2_with fail
              refine (of_any _ xs i _ (HV.out.below rfl hbel) HL1.out hi2).mono ?_
              rintro e w' ⟨rfl, rfl⟩
              rw [HX.out]
              go_wp2_with fail
              refine (of_any _ ys i _ (HU.out.below rfl hbel) HL2.out hi2).mono ?_
              rintro e w' ⟨rfl, rfl⟩
              rw [HY.out]
              go_wp2_with (at_builtin; refine wpList_append1 rfl _ _ 23 rfl w.heap.size 22 (.int .u64 0) 8 Try.underlying23 info_u64 rfl _ (Bsm.posn cs i).length (u64s (Bsm.posn cs i)) rfl HO.out _ rfl rfl HM1.out HM2.out hsz ?_; intro g cap1 w1 hown1 hg1 hb1)
              go_roundg k
              case measure => omega
              case rel =>
                have e : Bsm.posn cs (i + 1) = Bsm.posn cs i ++ [i] := by simp only [Bsm.posn]; rw [HZ.out]; simp
                refine ⟨i + 1, some ⟨g, 0, none⟩, _, cap1, rfl, by go_num, by omega, ?_, hbel.trans hb1⟩
                rw [e, u64s_append, List.length_append]
                exact hown1
          · have him2 : i < m2 := by omega
            have hg := HG.out i
            obtain ⟨x, hx⟩ : ∃ x, xs.getD i false = x := ⟨_, rfl⟩
            obtain ⟨y, hy⟩ : ∃ y, ys.getD i false = y := ⟨_, rfl⟩
            rw [hx, hy] at hg
            have HX := Lib.hid hx
            have HY := Lib.hid hy
            clear hx hy
            cases x <;> cases y
            · have HZ : Hid (cs.getD i false = false) := hg
              clear hg
              go_wp2_with fail
              refine (of_any _ xs i _ (HV.out.below rfl hbel) HL1.out hi2).mono ?_
              rintro e w' ⟨rfl, rfl⟩
              rw [HX.out]
              go_wp2_with fail
              refine (of_any _ ys i _ (HU.out.below rfl hbel) HL2.out hi2).mono ?_
              rintro e w' ⟨rfl, rfl⟩
              rw [HY.out]
              go_wp2_with fail
              go_roundg k
              case measure => omega
              case rel =>
                have e : Bsm.posn cs (i + 1) = Bsm.posn cs i := by simp only [Bsm.posn]; rw [HZ.out]; simp
                exact ⟨i + 1, p, l, cp, rfl, by go_num, by omega, by rw [e]; exact HO.out, hbel⟩
            · have HZ : Hid (cs.getD i false = true) := hg
              clear hg
              go_wp2_with fail
              refine (of_any _ xs i _ (HV.out.below rfl hbel) HL1.out hi2).mono ?_
              rintro e w' ⟨rfl, rfl⟩
              rw [HX.out]
              go_wp2_with fail
              refine (of_any _ ys i _ (HU.out.below rfl hbel) HL2.out hi2).mono ?_
              rintro e w' ⟨rfl, rfl⟩
              rw [HY.out]
              go_wp2_with (at_builtin; refine wpList_append1 rfl _ _ 23 rfl w.heap.size 22 (.int .u64 0) 8 Try.underlying23 info_u64 rfl _ (Bsm.posn cs i).length (u64s (Bsm.posn cs i)) rfl HO.out _ rfl rfl HM1.out HM2.out hsz ?_; intro g cap1 w1 hown1 hg1 hb1)
              go_roundg k
              case measure => omega
              case rel =>
                have e : Bsm.posn cs (i + 1) = Bsm.posn cs i ++ [i] := by simp only [Bsm.posn]; rw [HZ.out]; simp
                refine ⟨i + 1, some ⟨g, 0, none⟩, _, cap1, rfl, by go_num, by omega, ?_, hbel.trans hb1⟩
                rw [e, u64s_append, List.length_append]
                exact hown1
            · have HZ : Hid (cs.getD i false = true) := hg
              clear hg
              go_wp2_with fail
              refine (of_any _ xs i _ (HV.out.below rfl hbel) HL1.out hi2).mono ?_
              rintro e w' ⟨rfl, rfl⟩
              rw [HX.out]
              go_wp2_with fail
              refine (of_any _ ys i _ (HU.out.below rfl hbel) HL2.out hi2).mono ?_
              rintro e w' ⟨rfl, rfl⟩
              rw [HY.out]
              go_wp2_with (at_builtin; refine wpList_append1 rfl _ _ 23 rfl w.heap.size 22 (.int .u64 0) 8 Try.underlying23 info_u64 rfl _ (Bsm.posn cs i).length (u64s (Bsm.posn cs i)) rfl HO.out _ rfl rfl HM1.out HM2.out hsz ?_; intro g cap1 w1 hown1 hg1 hb1)
              go_roundg k
              case measure => omega
              case rel =>
                have e : Bsm.posn cs (i + 1) = Bsm.posn cs i ++ [i] := by simp only [Bsm.posn]; rw [HZ.out]; simp
                refine ⟨i + 1, some ⟨g, 0, none⟩, _, cap1, rfl, by go_num, by omega, ?_, hbel.trans hb1⟩
                rw [e, u64s_append, List.length_append]
                exact hown1
            · have HZ : Hid (cs.getD i false = true) := hg
              clear hg
              go_wp2_with fail
              refine (of_any _ xs i _ (HV.out.below rfl hbel) HL1.out hi2).mono ?_
              rintro e w' ⟨rfl, rfl⟩
              rw [HX.out]
              go_wp2_with fail
              refine (of_any _ ys i _ (HU.out.below rfl hbel) HL2.out hi2).mono ?_
              rintro e w' ⟨rfl, rfl⟩
              rw [HY.out]
              go_wp2_with (at_builtin; refine wpList_append1 rfl _ _ 23 rfl w.heap.size 22 (.int .u64 0) 8 Try.underlying23 info_u64 rfl _ (Bsm.posn cs i).length (u64s (Bsm.posn cs i)) rfl HO.out _ rfl rfl HM1.out HM2.out hsz ?_; intro g cap1 w1 hown1 hg1 hb1)
              go_roundg k
              case measure => omega
              case rel =>
                have e : Bsm.posn cs (i + 1) = Bsm.posn cs i ++ [i] := by simp only [Bsm.posn]; rw [HZ.out]; simp
                refine ⟨i + 1, some ⟨g, 0, none⟩, _, cap1, rfl, by go_num, by omega, ?_, hbel.trans hb1⟩
                rw [e, u64s_append, List.length_append]
                exact hown1
      · obtain rfl : i = N := by omega
        have him : ¬ i < m := by omega
        have him2 : ¬ i < m2 := by omega
        go_wp2_with fail
        go_ret
        rw [HP.out]
        exact ⟨_, rfl, HO.out, hbel⟩
  · go_enter Try.func37, Try.ntmps37
    go_wp2_with fail
    go_loopg [7, 8] N (fun k o idx wr => TwoLoop cs w N k o idx wr)
    case atStart => exact ⟨0, none, 0, 0, rfl, rfl, by omega, World.ownsRow_nil _ _ _ _, Below.refl _ _⟩
    case round =>
      obtain ⟨i, p, l, cp, rfl, rfl, hik, hown, hbel⟩ := hrel
      have HO := Lib.hid hown
      have hsz := hbel.size
      clear hown
      have hNN := HN.out
      by_cases hi : i < N
      · have hi2 : i ≤ 100000 := by omega
        have hpl := Bsm.posn_len cs i
        have hm1 : (Bsm.posn cs i).length + 1 ≤ maxLen := by unfold maxLen; omega
        have HM1 := Lib.hid hm1
        have HM2 : Hid (((Bsm.posn cs i).length + 1) * 8 ≤ 140737488355328) := show _ from (by omega : ((Bsm.posn cs i).length + 1) * 8 ≤ 140737488355328)
        clear hm1 hpl
        cases gk with
        | zero => omega
        | succ k =>
          by_cases him : i < m
          · have hg := HG.out i
            obtain ⟨x, hx⟩ : ∃ x, xs.getD i false = x := ⟨_, rfl⟩
            obtain ⟨y, hy⟩ : ∃ y, ys.getD i false = y := ⟨_, rfl⟩
            rw [hx, hy] at hg
            have HX := Lib.hid hx
            have HY := Lib.hid hy
            clear hx hy
            cases x <;> cases y
            · have HZ : Hid (cs.getD i false = false) := hg
              clear hg
              go_wp2_with fail
              refine (of_any _ xs i _ (HV.out.below rfl hbel) HL1.out hi2).mono ?_
              rintro e w' ⟨rfl, rfl⟩
              rw [HX.out]
              go_wp2_with fail
              refine (of_any _ ys i _ (HU.out.below rfl hbel) HL2.out hi2).mono ?_
              rintro e w' ⟨rfl, rfl⟩
              rw [HY.out]
              go_wp2_with fail
              go_roundg k
              case measure => omega
              case rel =>
                have e : Bsm.posn cs (i + 1) = Bsm.posn cs i := by simp only [Bsm.posn]; rw [HZ.out]; simp
                exact ⟨i + 1, p, l, cp, rfl, by go_num, by omega, by rw [e]; exact HO.out, hbel⟩
            · have HZ : Hid (cs.getD i false = false) := hg
              clear hg
              go_wp2_with fail
              refine (of_any _ xs i _ (HV.out.below rfl hbel) HL1.out hi2).mono ?_
              rintro e w' ⟨rfl, rfl⟩
              rw [HX.out]
              go_wp2_with fail
              refine (of_any _ ys i _ (HU.out.below rfl hbel) HL2.out hi2).mono ?_
              rintro e w' ⟨rfl, rfl⟩
              rw [HY.out]
              go_wp2_with fail
              go_roundg k
              case measure => omega
              case rel =>
                have e : Bsm.posn cs (i + 1) = Bsm.posn cs i := by simp only [Bsm.posn]; rw [HZ.out]; simp
                exact ⟨i + 1, p, l, cp, rfl, by go_num, by omega, by rw [e]; exact HO.out, hbel⟩
            · have HZ : Hid (cs.getD i false = false) := hg
              clear hg
              go_wp2_with fail
              refine (of_any _ xs i _ (HV.out.below rfl hbel) HL1.out hi2).mono ?_
              rintro e w' ⟨rfl, rfl⟩
              rw [HX.out]
              go_wp2_with fail
              refine (of_any _ ys i _ (HU.out.below rfl hbel) HL2.out hi2).mono ?_
              rintro e w' ⟨rfl, rfl⟩
              rw [HY.out]
              go_wp2_with fail
              go_roundg k
              case measure => omega
              case rel =>
                have e : Bsm.posn cs (i + 1) = Bsm.posn cs i := by simp only [Bsm.posn]; rw [HZ.out]; simp
                exact ⟨i + 1, p, l, cp, rfl, by go_num, by omega, by rw [e]; exact HO.out, hbel⟩
            · have HZ : Hid (cs.getD i false = true) := hg
              clear hg
              go_wp2_with fail
              refine (of_any _ xs i _ (HV.out.below rfl hbel) HL1.out hi2).mono ?_
              rintro e w' ⟨rfl, rfl⟩
              rw [HX.out]
              go_wp2_with fail
              refine (of_any _ ys i _ (HU.out.below rfl hbel) HL2.out hi2).mono ?_
              rintro e w' ⟨rfl, rfl⟩
              rw [HY.out]
              go_wp2_with (at_builtin; refine wpList_append1 rfl _ _ 23 rfl w.heap.size 22 (.int .u64 0) 8 Try.underlying23 info_u64 rfl _ (Bsm.posn cs i).length (u64s (Bsm.posn cs i)) rfl HO.out _ rfl rfl HM1.out HM2.out hsz ?_; intro g cap1 w1 hown1 hg1 hb1)
              go_roundg k
              case measure => omega
              case rel =>
                have e : Bsm.posn cs (i + 1) = Bsm.posn cs i ++ [i] := by simp only [Bsm.posn]; rw [HZ.out]; simp
                refine ⟨i + 1, some ⟨g, 0, none⟩, _, cap1, rfl, by go_num, by omega, ?_, hbel.trans hb1⟩
                rw [e, u64s_append, List.length_append]
                exact hown1
          · have him2 : i < m2 := by omega
            have hg := HG.out i
            obtain ⟨x, hx⟩ : ∃ x, xs.getD i false = x := ⟨_, rfl⟩
            obtain ⟨y, hy⟩ : ∃ y, ys.getD i false = y := ⟨_, rfl⟩
            rw [hx, hy] at hg
            have HX := Lib.hid hx
            have HY := Lib.hid hy
            clear hx hy
            cases x <;> cases y
            · have HZ : Hid (cs.getD i false = false) := hg
              clear hg
              go_wp2_with fail
              refine (of_any _ xs i _ (HV.out.below rfl hbel) HL1.out hi2).mono ?_
              rintro e w' ⟨rfl, rfl⟩
              rw [HX.out]
              go_wp2_with fail
              refine (of_any _ ys i _ (HU.out.below rfl hbel) HL2.out hi2).mono ?_
              rintro e w' ⟨rfl, rfl⟩
              rw [HY.out]
              go_wp2_with fail
              go_roundg k
              case measure => omega
              case rel =>
                have e : Bsm.posn cs (i + 1) = Bsm.posn cs i := by simp only [Bsm.posn]; rw [HZ.out]; simp
                exact ⟨i + 1, p, l, cp, rfl, by go_num, by omega, by rw [e]; exact HO.out, hbel⟩
            · have HZ : Hid (cs.getD i false = false) := hg
              clear hg
              go_wp2_with fail
              refine (of_any _ xs i _ (HV.out.below rfl hbel) HL1.out hi2).mono ?_
              rintro e w' ⟨rfl, rfl⟩
              rw [HX.out]
              go_wp2_with fail
              refine (of_any _ ys i _ (HU.out.below rfl hbel) HL2.out hi2).mono ?_
              rintro e w' ⟨rfl, rfl⟩
              rw [HY.out]
              go_wp2_with fail
              go_roundg k
              case measure => omega
              case rel =>
                have e : Bsm.posn cs (i + 1) = Bsm.posn cs i := by simp only [Bsm.posn]; rw [HZ.out]; simp
                exact ⟨i + 1, p, l, cp, rfl, by go_num, by omega, by rw [e]; exact HO.out, hbel⟩
            · have HZ : Hid (cs.getD i false = false) := hg
              clear hg
              go_wp2_with fail
              refine (of_any _ xs i _ (HV.out.below rfl hbel) HL1.out hi2).mono ?_
              rintro e w' ⟨rfl, rfl⟩
              rw [HX.out]
              go_wp2_with fail
              refine (of_any _ ys i _ (HU.out.below rfl hbel) HL2.out hi2).mono ?_
              rintro e w' ⟨rfl, rfl⟩
              rw [HY.out]
              go_wp2_with fail
              go_roundg k
              case measure => omega
              case rel =>
                have e : Bsm.posn cs (i + 1) = Bsm.posn cs i := by simp only [Bsm.posn]; rw [HZ.out]; simp
                exact ⟨i + 1, p, l, cp, rfl, by go_num, by omega, by rw [e]; exact HO.out, hbel⟩
            · have HZ : Hid (cs.getD i false = true) := hg
              clear hg
              go_wp2_with fail
              refine (of_any _ xs i _ (HV.out.below rfl hbel) HL1.out hi2).mono ?_
              rintro e w' ⟨rfl, rfl⟩
              rw [HX.out]
              go_wp2_with fail
              refine (of_any _ ys i _ (HU.out.below rfl hbel) HL2.out hi2).mono ?_
              rintro e w' ⟨rfl, rfl⟩
              rw [HY.out]
              go_wp2_with (at_builtin; refine wpList_append1 rfl _ _ 23 rfl w.heap.size 22 (.int .u64 0) 8 Try.underlying23 info_u64 rfl _ (Bsm.posn cs i).length (u64s (Bsm.posn cs i)) rfl HO.out _ rfl rfl HM1.out HM2.out hsz ?_; intro g cap1 w1 hown1 hg1 hb1)
              go_roundg k
              case measure => omega
              case rel =>
                have e : Bsm.posn cs (i + 1) = Bsm.posn cs i ++ [i] := by simp only [Bsm.posn]; rw [HZ.out]; simp
                refine ⟨i + 1, some ⟨g, 0, none⟩, _, cap1, rfl, by go_num, by omega, ?_, hbel.trans hb1⟩
                rw [e, u64s_append, List.length_append]
                exact hown1
      · obtain rfl : i = N := by omega
        have him : ¬ i < m := by omega
        have him2 : ¬ i < m2 := by omega
        go_wp2_with fail
        go_ret
        rw [HP.out]
        exact ⟨_, rfl, HO.out, hbel⟩
  · go_enter Try.func37, Try.ntmps37
    go_wp2_with fail
    go_loopg [7, 8] N (fun k o idx wr => TwoLoop cs w N k o idx wr)
    case atStart => exact ⟨0, none, 0, 0, rfl, rfl, by omega, World.ownsRow_nil _ _ _ _, Below.refl _ _⟩
    case round =>
      obtain ⟨i, p, l, cp, rfl, rfl, hik, hown, hbel⟩ := hrel
      have HO := Lib.hid hown
      have hsz := hbel.size
      clear hown
      have hNN := HN.out
      by_cases hi : i < N
      · have hi2 : i ≤ 100000 := by omega
        have hpl := Bsm.posn_len cs i
        have hm1 : (Bsm.posn cs i).length + 1 ≤ maxLen := by unfold maxLen; omega
        have HM1 := Lib.hid hm1
        have HM2 : Hid (((Bsm.posn cs i).length + 1) * 8 ≤ 140737488355328) := show _ from (by omega : ((Bsm.posn cs i).length + 1) * 8 ≤ 140737488355328)
        clear hm1 hpl
        cases gk with
        | zero => omega
        | succ k =>
          by_cases him : i < m
          · have hg := HG.out i
            obtain ⟨x, hx⟩ : ∃ x, xs.getD i false = x := ⟨_, rfl⟩
            obtain ⟨y, hy⟩ : ∃ y, ys.getD i false = y := ⟨_, rfl⟩
            rw [hx, hy] at hg
            have HX := Lib.hid hx
            have HY := Lib.hid hy
            clear hx hy
            cases x <;> cases y
            · have HZ : Hid (cs.getD i false = false) := hg
              clear hg
              go_wp2_with fail
              refine (of_any _ xs i _ (HV.out.below rfl hbel) HL1.out hi2).mono ?_
              rintro e w' ⟨rfl, rfl⟩
              rw [HX.out]
              go_wp2_with fail
              refine (of_any _ ys i _ (HU.out.below rfl hbel) HL2.out hi2).mono ?_
              rintro e w' ⟨rfl, rfl⟩
              rw [HY.out]
              go_wp2_with fail
              go_roundg k
              case measure => omega
              case rel =>
                have e : Bsm.posn cs (i + 1) = Bsm.posn cs i := by simp only [Bsm.posn]; rw [HZ.out]; simp
                exact ⟨i + 1, p, l, cp, rfl, by go_num, by omega, by rw [e]; exact HO.out, hbel⟩
            · have HZ : Hid (cs.getD i false = false) := hg
              clear hg
              go_wp2_with fail
              refine (of_any _ xs i _ (HV.out.below rfl hbel) HL1.out hi2).mono ?_
              rintro e w' ⟨rfl, rfl⟩
              rw [HX.out]
              go_wp2_with fail
              refine (of_any _ ys i _ (HU.out.below rfl hbel) HL2.out hi2).mono ?_
              rintro e w' ⟨rfl, rfl⟩
              rw [HY.out]
              go_wp2_with fail
              go_roundg k
              case measure => omega
              case rel =>
                have e : Bsm.posn cs (i + 1) = Bsm.posn cs i := by simp only [Bsm.posn]; rw [HZ.out]; simp
                exact ⟨i + 1, p, l, cp, rfl, by go_num, by omega, by rw [e]; exact HO.out, hbel⟩
            · have HZ : Hid (cs.getD i false = true) := hg
              clear hg
              go_wp2_with fail
              refine (of_any _ xs i _ (HV.out.below rfl hbel) HL1.out hi2).mono ?_
              rintro e w' ⟨rfl, rfl⟩
              rw [HX.out]
              go_wp2_with fail
              refine (of_any _ ys i _ (HU.out.below rfl hbel) HL2.out hi2).mono ?_
              rintro e w' ⟨rfl, rfl⟩
              rw [HY.out]
              go_wp2_with (at_builtin; refine wpList_append1 rfl _ _ 23 rfl w.heap.size 22 (.int .u64 0) 8 Try.underlying23 info_u64 rfl _ (Bsm.posn cs i).length (u64s (Bsm.posn cs i)) rfl HO.out _ rfl rfl HM1.out HM2.out hsz ?_; intro g cap1 w1 hown1 hg1 hb1)
              go_roundg k
              case measure => omega
              case rel =>
                have e : Bsm.posn cs (i + 1) = Bsm.posn cs i ++ [i] := by simp only [Bsm.posn]; rw [HZ.out]; simp
                refine ⟨i + 1, some ⟨g, 0, none⟩, _, cap1, rfl, by go_num, by omega, ?_, hbel.trans hb1⟩
                rw [e, u64s_append, List.length_append]
                exact hown1
            · have HZ : Hid (cs.getD i false = false) := hg
              clear hg
              go_wp2_with fail
              refine (of_any _ xs i _ (HV.out.below rfl hbel) HL1.out hi2).mono ?_
              rintro e w' ⟨rfl, rfl⟩
              rw [HX.out]
              go_wp2_with fail
              refine (of_any _ ys i _ (HU.out.below rfl hbel) HL2.out hi2).mono ?_
              rintro e w' ⟨rfl, rfl⟩
              rw [HY.out]
              go_wp2_with fail
              go_roundg k
              case measure => omega
              case rel =>
                have e : Bsm.posn cs (i + 1) = Bsm.posn cs i := by simp only [Bsm.posn]; rw [HZ.out]; simp
                exact ⟨i + 1, p, l, cp, rfl, by go_num, by omega, by rw [e]; exact HO.out, hbel⟩
          · have him2 : i < m2 := by omega
            have hg := HG.out i
            obtain ⟨x, hx⟩ : ∃ x, xs.getD i false = x := ⟨_, rfl⟩
            obtain ⟨y, hy⟩ : ∃ y, ys.getD i false = y := ⟨_, rfl⟩
            rw [hx, hy] at hg
            have HX := Lib.hid hx
            have HY := Lib.hid hy
            clear hx hy
            cases x <;> cases y
            · have HZ : Hid (cs.getD i false = false) := hg
              clear hg
              go_wp2_with fail
              refine (of_any _ xs i _ (HV.out.below rfl hbel) HL1.out hi2).mono ?_
              rintro e w' ⟨rfl, rfl⟩
              rw [HX.out]
              go_wp2_with fail
              refine (of_any _ ys i _ (HU.out.below rfl hbel) HL2.out hi2).mono ?_
              rintro e w' ⟨rfl, rfl⟩
              rw [HY.out]
              go_wp2_with fail
              go_roundg k
              case measure => omega
              case rel =>
                have e : Bsm.posn cs (i + 1) = Bsm.posn cs i := by simp only [Bsm.posn]; rw [HZ.out]; simp
                exact ⟨i + 1, p, l, cp, rfl, by go_num, by omega, by rw [e]; exact HO.out, hbel⟩
            · have HZ : Hid (cs.getD i false = false) := hg
              clear hg
              go_wp2_with fail
              refine (of_any _ xs i _ (HV.out.below rfl hbel) HL1.out hi2).mono ?_
              rintro e w' ⟨rfl, rfl⟩
              rw [HX.out]
              go_wp2_with fail
              refine (of_any _ ys i _ (HU.out.below rfl hbel) HL2.out hi2).mono ?_
              rintro e w' ⟨rfl, rfl⟩
              rw [HY.out]
              go_wp2_with fail
              go_roundg k
              case measure => omega
              case rel =>
                have e : Bsm.posn cs (i + 1) = Bsm.posn cs i := by simp only [Bsm.posn]; rw [HZ.out]; simp
                exact ⟨i + 1, p, l, cp, rfl, by go_num, by omega, by rw [e]; exact HO.out, hbel⟩
            · have HZ : Hid (cs.getD i false = true) := hg
              clear hg
              go_wp2_with fail
              refine (of_any _ xs i _ (HV.out.below rfl hbel) HL1.out hi2).mono ?_
              rintro e w' ⟨rfl, rfl⟩
              rw [HX.out]
              go_wp2_with fail
              refine (of_any _ ys i _ (HU.out.below rfl hbel) HL2.out hi2).mono ?_
              rintro e w' ⟨rfl, rfl⟩
              rw [HY.out]
              go_wp2_with (at_builtin; refine wpList_append1 rfl _ _ 23 rfl w.heap.size 22 (.int .u64 0) 8 Try.underlying23 info_u64 rfl _ (Bsm.posn cs i).length (u64s (Bsm.posn cs i)) rfl HO.out _ rfl rfl HM1.out HM2.out hsz ?_; intro g cap1 w1 hown1 hg1 hb1)
              go_roundg k
              case measure => omega
              case rel =>
                have e : Bsm.posn cs (i + 1) = Bsm.posn cs i ++ [i] := by simp only [Bsm.posn]; rw [HZ.out]; simp
                refine ⟨i + 1, some ⟨g, 0, none⟩, _, cap1, rfl, by go_num, by omega, ?_, hbel.trans hb1⟩
                rw [e, u64s_append, List.length_append]
                exact hown1
            · have HZ : Hid (cs.getD i false = false) := hg
              clear hg
              go_wp2_with fail
              refine (of_any _ xs i _ (HV.out.below rfl hbel) HL1.out hi2).mono ?_
              rintro e w' ⟨rfl, rfl⟩
              rw [HX.out]
              go_wp2_with fail
              refine (of_any _ ys i _ (HU.out.below rfl hbel) HL2.out hi2).mono ?_
              rintro e w' ⟨rfl, rfl⟩
              rw [HY.out]
              go_wp2_with fail
              go_roundg k
              case measure => omega
              case rel =>
                have e : Bsm.posn cs (i + 1) = Bsm.posn cs i := by simp only [Bsm.posn]; rw [HZ.out]; simp
                exact ⟨i + 1, p, l, cp, rfl, by go_num, by omega, by rw [e]; exact HO.out, hbel⟩
      · obtain rfl : i = N := by omega
        have him : ¬ i < m := by omega
        have him2 : ¬ i < m2 := by omega
        go_wp2_with fail
        go_ret
        rw [HP.out]
        exact ⟨_, rfl, HO.out, hbel⟩
  · go_enter Try.func37, Try.ntmps37
    go_wp2_with fail
    go_loopg [7, 8] N (fun k o idx wr => TwoLoop cs w N k o idx wr)
    case atStart => exact ⟨0, none, 0, 0, rfl, rfl, by omega, World.ownsRow_nil _ _ _ _, Below.refl _ _⟩
    case round =>
      obtain ⟨i, p, l, cp, rfl, rfl, hik, hown, hbel⟩ := hrel
      have HO := Lib.hid hown
      have hsz := hbel.size
      clear hown
      have hNN := HN.out
      by_cases hi : i < N
      · have hi2 : i ≤ 100000 := by omega
        have hpl := Bsm.posn_len cs i
        have hm1 : (Bsm.posn cs i).length + 1 ≤ maxLen := by unfold maxLen; omega
        have HM1 := Lib.hid hm1
        have HM2 : Hid (((Bsm.posn cs i).length + 1) * 8 ≤ 140737488355328) := show _ from (by omega : ((Bsm.posn cs i).length + 1) * 8 ≤ 140737488355328)
        clear hm1 hpl
        cases gk with
        | zero => omega
        | succ k =>
          by_cases him : i < m
          · have hg := HG.out i
            obtain ⟨x, hx⟩ : ∃ x, xs.getD i false = x := ⟨_, rfl⟩
            obtain ⟨y, hy⟩ : ∃ y, ys.getD i false = y := ⟨_, rfl⟩
            rw [hx, hy] at hg
            have HX := Lib.hid hx
            have HY := Lib.hid hy
            clear hx hy
            cases x <;> cases y
            · have HZ : Hid (cs.getD i false = false) := hg
              clear hg
              go_wp2_with fail
              refine (of_any _ xs i _ (HV.out.below rfl hbel) HL1.out hi2).mono ?_
              rintro e w' ⟨rfl, rfl⟩
              rw [HX.out]
              go_wp2_with fail
              refine (of_any _ ys i _ (HU.out.below rfl hbel) HL2.out hi2).mono ?_
              rintro e w' ⟨rfl, rfl⟩
              rw [HY.out]
              go_wp2_with fail
              go_roundg k
              case measure => omega
              case rel =>
                have e : Bsm.posn cs (i + 1) = Bsm.posn cs i := by simp only [Bsm.posn]; rw [HZ.out]; simp
                exact ⟨i + 1, p, l, cp, rfl, by go_num, by omega, by rw [e]; exact HO.out, hbel⟩
            · have HZ : Hid (cs.getD i false = true) := hg
              clear hg
              go_wp2_with fail
              refine (of_any _ xs i _ (HV.out.below rfl hbel) HL1.out hi2).mono ?_
              rintro e w' ⟨rfl, rfl⟩
              rw [HX.out]
              go_wp2_with fail
              refine (of_any _ ys i _ (HU.out.below rfl hbel) HL2.out hi2).mono ?_
              rintro e w' ⟨rfl, rfl⟩
              rw [HY.out]
              go_wp2_with (at_builtin; refine wpList_append1 rfl _ _ 23 rfl w.heap.size 22 (.int .u64 0) 8 Try.underlying23 info_u64 rfl _ (Bsm.posn cs i).length (u64s (Bsm.posn cs i)) rfl HO.out _ rfl rfl HM1.out HM2.out hsz ?_; intro g cap1 w1 hown1 hg1 hb1)
              go_roundg k
              case measure => omega
              case rel =>
                have e : Bsm.posn cs (i + 1) = Bsm.posn cs i ++ [i] := by simp only [Bsm.posn]; rw [HZ.out]; simp
                refine ⟨i + 1, some ⟨g, 0, none⟩, _, cap1, rfl, by go_num, by omega, ?_, hbel.trans hb1⟩
                rw [e, u64s_append, List.length_append]
                exact hown1
            · have HZ : Hid (cs.getD i false = true) := hg
              clear hg
              go_wp2_with fail
              refine (of_any _ xs i _ (HV.out.below rfl hbel) HL1.out hi2).mono ?_
              rintro e w' ⟨rfl, rfl⟩
              rw [HX.out]
              go_wp2_with fail
              refine (of_any _ ys i _ (HU.out.below rfl hbel) HL2.out hi2).mono ?_
              rintro e w' ⟨rfl, rfl⟩
              rw [HY.out]
              go_wp2_with (at_builtin; refine wpList_append1 rfl _ _ 23 rfl w.heap.size 22 (.int .u64 0) 8 Try.underlying23 info_u64 rfl _ (Bsm.posn cs i).length (u64s (Bsm.posn cs i)) rfl HO.out _ rfl rfl HM1.out HM2.out hsz ?_; intro g cap1 w1 hown1 hg1 hb1)
              go_roundg k
              case measure => omega
              case rel =>
                have e : Bsm.posn cs (i + 1) = Bsm.posn cs i ++ [i] := by simp only [Bsm.posn]; rw [HZ.out]; simp
                refine ⟨i + 1, some ⟨g, 0, none⟩, _, cap1, rfl, by go_num, by omega, ?_, hbel.trans hb1⟩
                rw [e, u64s_append, List.length_append]
                exact hown1
            · have HZ : Hid (cs.getD i false = false) := hg
              clear hg
              go_wp2_with fail
              refine (of_any _ xs i _ (HV.out.below rfl hbel) HL1.out hi2).mono ?_
              rintro e w' ⟨rfl, rfl⟩
              rw [HX.out]
              go_wp2_with fail
              refine (of_any _ ys i _ (HU.out.below rfl hbel) HL2.out hi2).mono ?_
              rintro e w' ⟨rfl, rfl⟩
              rw [HY.out]
              go_wp2_with fail
              go_roundg k
              case measure => omega
              case rel =>
                have e : Bsm.posn cs (i + 1) = Bsm.posn cs i := by simp only [Bsm.posn]; rw [HZ.out]; simp
                exact ⟨i + 1, p, l, cp, rfl, by go_num, by omega, by rw [e]; exact HO.out, hbel⟩
          · have him2 : i < m2 := by omega
            have hg := HG.out i
            obtain ⟨x, hx⟩ : ∃ x, xs.getD i false = x := ⟨_, rfl⟩
            obtain ⟨y, hy⟩ : ∃ y, ys.getD i false = y := ⟨_, rfl⟩
            rw [hx, hy] at hg
            have HX := Lib.hid hx
            have HY := Lib.hid hy
            clear hx hy
            cases x <;> cases y
            · have HZ : Hid (cs.getD i false = false) := hg
              clear hg
              go_wp2_with fail
              refine (of_any _ xs i _ (HV.out.below rfl hbel) HL1.out hi2).mono ?_
              rintro e w' ⟨rfl, rfl⟩
              rw [HX.out]
              go_wp2_with fail
              refine (of_any _ ys i _ (HU.out.below rfl hbel) HL2.out hi2).mono ?_
              rintro e w' ⟨rfl, rfl⟩
              rw [HY.out]
              go_wp2_with fail
              go_roundg k
              case measure => omega
              case rel =>
                have e : Bsm.posn cs (i + 1) = Bsm.posn cs i := by simp only [Bsm.posn]; rw [HZ.out]; simp
                exact ⟨i + 1, p, l, cp, rfl, by go_num, by omega, by rw [e]; exact HO.out, hbel⟩
            · have HZ : Hid (cs.getD i false = true) := hg
              clear hg
              go_wp2_with fail
              refine (of_any _ xs i _ (HV.out.below rfl hbel) HL1.out hi2).mono ?_
              rintro e w' ⟨rfl, rfl⟩
              rw [HX.out]
              go_wp2_with fail
              refine (of_any _ ys i _ (HU.out.below rfl hbel) HL2.out hi2).mono ?_
              rintro e w' ⟨rfl, rfl⟩
              rw [HY.out]
              go_wp2_with (at_builtin; refine wpList_append1 rfl _ _ 23 rfl w.heap.size 22 (.int .u64 0) 8 Try.underlying23 info_u64 rfl _ (Bsm.posn cs i).length (u64s (Bsm.posn cs i)) rfl HO.out _ rfl rfl HM1.out HM2.out hsz ?_; intro g cap1 w1 hown1 hg1 hb1)
              go_roundg k
              case measure => omega
              case rel =>
                have e : Bsm.posn cs (i + 1) = Bsm.posn cs i ++ [i] := by simp only [Bsm.posn]; rw [HZ.out]; simp
                refine ⟨i + 1, some ⟨g, 0, none⟩, _, cap1, rfl, by go_num, by omega, ?_, hbel.trans hb1⟩
                rw [e, u64s_append, List.length_append]
                exact hown1
            · have HZ : Hid (cs.getD i false = true) := hg
              clear hg
              go_wp2_with fail
              refine (of_any _ xs i _ (HV.out.below rfl hbel) HL1.out hi2).mono ?_
              rintro e w' ⟨rfl, rfl⟩
              rw [HX.out]
              go_wp2_with fail
              refine (of_any _ ys i _ (HU.out.below rfl hbel) HL2.out hi2).mono ?_
              rintro e w' ⟨rfl, rfl⟩
              rw [HY.out]
              go_wp2_with (at_builtin; refine wpList_append1 rfl _ _ 23 rfl w.heap.size 22 (.int .u64 0) 8 Try.underlying23 info_u64 rfl _ (Bsm.posn cs i).length (u64s (Bsm.posn cs i)) rfl HO.out _ rfl rfl HM1.out HM2.out hsz ?_; intro g cap1 w1 hown1 hg1 hb1)
              go_roundg k
              case measure => omega
              case rel =>
                have e : Bsm.posn cs (i + 1) = Bsm.posn cs i ++ [i] := by simp only [Bsm.posn]; rw [HZ.out]; simp
                refine ⟨i + 1, some ⟨g, 0, none⟩, _, cap1, rfl, by go_num, by omega, ?_, hbel.trans hb1⟩
                rw [e, u64s_append, List.length_append]
                exact hown1
            · have HZ : Hid (cs.getD i false = false) := hg
              clear hg
              go_wp2_with fail
              refine (of_any _ xs i _ (HV.out.below rfl hbel) HL1.out hi2).mono ?_
              rintro e w' ⟨rfl, rfl⟩
              rw [HX.out]
              go_wp2_with fail
              refine (of_any _ ys i _ (HU.out.below rfl hbel) HL2.out hi2).mono ?_
              rintro e w' ⟨rfl, rfl⟩
              rw [HY.out]
              go_wp2_with fail
              go_roundg k
              case measure => omega
              case rel =>
                have e : Bsm.posn cs (i + 1) = Bsm.posn cs i := by simp only [Bsm.posn]; rw [HZ.out]; simp
                exact ⟨i + 1, p, l, cp, rfl, by go_num, by omega, by rw [e]; exact HO.out, hbel⟩
      · obtain rfl : i = N := by omega
        have him : ¬ i < m := by omega
        have him2 : ¬ i < m2 := by omega
        go_wp2_with fail
        go_ret
        rw [HP.out]
        exact ⟨_, rfl, HO.out, hbel⟩
end Go.Proofs.Ytbgmkojiklphmaa
