/- Walk of spec.BSDelete. -/
import Derived.Test.YtbgmkojiklphmaaBsDelete
namespace Go.Proofs.Ytbgmkojiklphmaa
set_option linter.unusedVariables false
open Go.RowKit

theorem run_bslice_to (a : Option Addr) (n cap m : Nat) (k : IntKind) (h : Int) (hh : h = (m : Int)) (hm : m ≤ cap) (W : World) :
    (Instr.slice 32 (.slice a n cap) none (some (.int k h)) none).run Try.prog W = .ok (.slice a m cap) W := by
  subst hh
  rw [run_slice_h (P := Try.prog) (t := 32) (a := a) (len := n) (cap := cap) (ht := Try.underlying32) (kh := k) (h := (m : Int)) (h0 := by omega) (h2 := by omega)]
  have e0 : ∀ p : Addr, p.add 0 = p := fun p => by cases p; simp [Addr.add]
  have es : ((sizeOf (Try.prog.elem 32)).run Try.prog W) = .ok 1 W := by kernel_rfl
  rw [es]
  simp [Result.andThen, sliced]
  intro _
  cases a <;> simp [e0]
theorem run_bslice_from (a : Option Addr) (n cap m : Nat) (k : IntKind) (h : Int) (hh : h = (m : Int)) (hm : m ≤ n) (hc : n ≤ cap) :
    ∃ a', (m < n → a' = a.map (·.add m)) ∧ ∀ W, (Instr.slice 32 (.slice a n cap) (some (.int k h)) none none).run Try.prog W = .ok (.slice a' (n - m) (cap - m)) W := by
  subst hh
  refine ⟨if cap = m then a else a.map (·.add m), fun hlt => by rw [if_neg (by omega)], fun W => ?_⟩
  rw [run_slice_l (P := Try.prog) (t := 32) (a := a) (len := n) (cap := cap) (ht := Try.underlying32) (kl := k) (l := (m : Int)) (h0 := by omega) (h1 := by omega)]
  have es : ((sizeOf (Try.prog.elem 32)).run Try.prog W) = .ok 1 W := by kernel_rfl
  rw [es]
  simp [Result.andThen, sliced]
theorem Sl.take {w : World} {a : Option Addr} {n cap : Nat} {vs : List Value} (h : Sl w (.slice a n cap) vs) (m : Nat) (hm : m ≤ n) : Sl w (.slice a m cap) (vs.take m) := by
  obtain ⟨a', n', c', e, h1, h2, h3, h4⟩ := h
  simp only [Value.slice.injEq] at e
  obtain ⟨rfl, rfl, rfl⟩ := e
  refine ⟨a, m, cap, rfl, by simp; omega, by omega, h3, fun h0 => ?_⟩
  obtain ⟨b, off, rfl, hc⟩ := h4 (by omega)
  refine ⟨b, off, rfl, fun i u hu => hc i u ?_⟩
  rw [List.getElem?_take] at hu
  split at hu
  · exact hu
  · cases hu
theorem Sl.drop {w : World} {a a' : Option Addr} {n cap : Nat} {vs : List Value} (h : Sl w (.slice a n cap) vs) (m : Nat) (hm : m ≤ n) (ha : m < n → a' = a.map (·.add m)) : Sl w (.slice a' (n - m) (cap - m)) (vs.drop m) := by
  obtain ⟨a1, n1, c1, e, h1, h2, h3, h4⟩ := h
  simp only [Value.slice.injEq] at e
  obtain ⟨rfl, rfl, rfl⟩ := e
  refine ⟨a', n - m, cap - m, rfl, by simp; omega, by omega, by omega, fun h0 => ?_⟩
  obtain ⟨b, off, rfl, hc⟩ := h4 (by omega)
  refine ⟨b, off + m, by rw [ha (by omega)]; simp [addr_add], fun i u hu => ?_⟩
  rw [List.getElem?_drop] at hu
  rw [Nat.add_assoc]
  exact hc _ u hu

set_option maxRecDepth 100000 in
set_option maxHeartbeats 1000000 in
theorem delspec_any (v : Value) (bs : List Bool) (i : Nat) (I : Int) (hI : I = i) (w : World) (hv : Sl w v (bools bs)) (hi : i < bs.length) (hn : bs.length ≤ 10000) :
    Calls Try.prog 36 #[v, .int .i64 I] w fun e w' => ∃ v', e = .returned v' ∧ w'.ownsRow w.heap.size 4 1 v' (Bsm.del bs i).length (bools (Bsm.del bs i)) ∧ Below w.heap.size w w' := by
  subst hI
  have hvv : ∃ a n cap, v = .slice a n cap ∧ bs.length = n ∧ n ≤ cap := by obtain ⟨a, n, cap, rfl, hl, hc, _⟩ := hv; rw [bools_len] at hl; exact ⟨a, n, cap, rfl, hl, hc⟩
  obtain ⟨a, n, cap, rfl, hln, hnc⟩ := hvv
  have hb0 : Below w.heap.size w (w.alloc (.cells #[] 4)) := (Below.refl _ _).alloc (Nat.le_refl _) _
  have hin : i < n := by omega
  have hn2 : n ≤ 10000 := by omega
  have h1 := (hv.take i (by omega)).below rfl hb0
  obtain ⟨a', ha', hs2⟩ := run_bslice_from a n cap (i + 1) .i64 ((i : Int) + 1) (by push_cast; rfl) (by omega) hnc
  have h2 := hv.drop (i + 1) (by omega) ha'
  have HB0 := Lib.hid hb0
  rw [show (bools bs).take i = bools (bs.take i) from by simp [bools, List.map_take]] at h1
  rw [show (bools bs).drop (i + 1) = bools (bs.drop (i + 1)) from by simp [bools, List.map_drop]] at h2
  have hs1 := fun W => run_bslice_to a n cap i .i64 (i : Int) rfl (by omega) W
  have l1 : (bools (bs.take i)).length = i := by rw [bools_len, List.length_take]; omega
  have l2 : (bools (bs.drop (i + 1))).length = n - (i + 1) := by rw [bools_len, List.length_drop]; omega
  have H1 := Lib.hid h1
  have H2 := Lib.hid h2
  have L1 := Lib.hid l1
  have L2 := Lib.hid l2
  have HLN := Lib.hid hln
  clear hv ha' h1 h2 l1 l2 hln hi hn
  go_enter Try.func36, Try.ntmps36
  go_wp2_with (first
    | (at_builtin; (have tok := hown1); refine wpList_appendSl rfl _ _ 32 32 rfl w.heap.size 4 4 (.bool false) 1 Try.underlying32 Try.underlying32 info_bool rfl _ i (bools (bs.take i)) rfl HO1.out _ _ rfl (H2.out.below rfl HB1.out) (bool_cells _) (by rw [L2.out]; unfold maxLen; omega) (by rw [L2.out]; omega) (by omega) ?_; intro p2 m2 cap2 w2 hown2 _ hb2)
    | (at_builtin; (fail_if_success (have tok := hown1)); refine wpList_appendSl rfl _ _ 32 32 rfl w.heap.size 4 4 (.bool false) 1 Try.underlying32 Try.underlying32 info_bool rfl _ 0 [] rfl (empty_own w w.heap.size 4 (Nat.le_refl _)) _ _ rfl H1.out (bool_cells _) (by rw [L1.out]; unfold maxLen; omega) (by rw [L1.out]; omega) (by simp) ?_; intro p1 m1 cap1 w1 hown1 _ hb1; (rw [L1.out, Nat.zero_add, List.nil_append] at hown1); have hz1 := hb1.size; (rw [World.size_alloc] at hz1); have HO1 := Lib.hid hown1; have HB1 : Hid (Below w.heap.size w w1) := HB0.out.trans hb1))
  go_ret
  rw [L2.out] at hown2
  have e1 : (Bsm.del bs i).length = i + (n - (i + 1)) := by unfold Bsm.del; rw [List.length_append, List.length_take, List.length_drop, HLN.out]; omega
  have e2 : bools (Bsm.del bs i) = bools (bs.take i) ++ bools (bs.drop (i + 1)) := by simp [bools, Bsm.del]
  rw [e1, e2]
  exact ⟨_, rfl, hown2, HB1.out.trans hb2⟩
end Go.Proofs.Ytbgmkojiklphmaa
