/- The runs of steps that FnRoadSets asks for, and what lists of numbers say of them. -/
import Derived.Test.YtgifbdjifmoafaaGreatRdOnce
import Derived.Test.YtgifbdjifmoafaaGreatBaOrSp
import Derived.Test.YtgifbdjifmoafaaGreatBaNandSp
import Derived.Test.YtgifbdjifmoafaaGreatBaAndSpLaw
namespace Go.Proofs.YtgifbdjifmoafaaGreat
set_option linter.unusedVariables false
open Go.RowKit Bam

theorem meth_sp_Or (x : Value) (w : World) : (method 267 99 x "Or").run Tryz.prog w = .ok (120, x) w := by kernel_rfl
theorem call_sp_Or (args : Array Value) (w : World) : (callFunc 120 args).run Tryz.prog w = .ok (.enter 120 args) w := by kernel_rfl
theorem meth_sp_Nand2 (x : Value) (w : World) : (method 267 99 x "Nand").run Tryz.prog w = .ok (119, x) w := by kernel_rfl
theorem call_sp_Nand2 (args : Array Value) (w : World) : (callFunc 119 args).run Tryz.prog w = .ok (.enter 119 args) w := by kernel_rfl

theorem orsp_any (p q : Nat) (F G : List Nat) (ps qs : Ps) (w : World) (h : SpAt w p F ps) (k : SpAt w q G qs) (ho1 : Ok ps) (ho2 : Ok qs) (hn : ps.length ≤ 1000) (hm : qs.length ≤ 1000) (hs1 : ∀ q ∈ ps, q.1 < 144115188075855872) (hs2 : ∀ q ∈ qs, q.1 < 144115188075855872) :
    Calls Tryz.prog 132 #[.pointer (some ⟨p, 0, none⟩), .pointer (some ⟨q, 0, none⟩)] w fun e w' =>
      ∃ (r : Nat) (H : List Nat), e = .returned (.iface 99 (.pointer (some ⟨r, 0, none⟩))) ∧ SpAt w' r H (orL ps qs) ∧ (∀ x ∈ H, w.heap.size ≤ x) ∧ Below w.heap.size w w' := by
  rcases Nat.eq_zero_or_pos qs.length with e | e
  · obtain rfl := List.eq_nil_of_length_eq_zero e
    rw [orL_nilr]
    exact orsp_right p q F G ps w h k hn
  · rcases Nat.eq_zero_or_pos ps.length with e2 | e2
    · obtain rfl := List.eq_nil_of_length_eq_zero e2
      rw [orL_nill]
      exact orsp_left p q F G qs w h k hm e
    · exact orsp_main p q F G ps qs w h k ho1 ho2 hn hm e2 e hs1 hs2

set_option maxRecDepth 100000 in
theorem makes_or_ss (ps qs : Ps) (h1 : SOk ps) (h2 : SOk qs) : Makes 120 (.sp ps) (.sp qs) (.sp (orL ps qs)) := by
  intro w p F q G hp hq
  have ha := orsp_any p q F G ps qs w hp hq h1.ok h2.ok (Nat.le_trans h1.len (by decide)) (Nat.le_trans h2.len (by decide)) (fun x hx => by have := h1.small x hx; omega) (fun x hx => by have := h2.small x hx; omega)
  have HA := Lib.hid ha
  show Calls Tryz.prog _ #[.pointer (some ⟨p, 0, none⟩), .iface 99 (.pointer (some ⟨q, 0, none⟩))] w _
  have hta := assert_sp_sp
  clear ha hp hq h1 h2
  go_enter Tryz.func120, Tryz.ntmps120
  go_wp2_with fail
  refine HA.out.mono ?_
  rintro e w' ⟨r, H, rfl, hs, hf, hb⟩
  have HS := Lib.hid hs
  have HF := Lib.hid hf
  have HB := Lib.hid hb
  clear hs hf hb
  go_wp2_with fail
  go_ret
  exact ⟨r, H, rfl, HS.out, HF.out, HB.out⟩

set_option maxRecDepth 100000 in
theorem makes_nand_ss (ps qs : Ps) (h1 : SOk ps) (h2 : SOk qs) : Makes 119 (.sp ps) (.sp qs) (.sp (nandL ps qs)) := by
  intro w p F q G hp hq
  have ha := nandsp_any p q F G ps qs w hp hq h1.ok h2.ok (Nat.le_trans h1.len (by decide)) (Nat.le_trans h2.len (by decide))
  have HA := Lib.hid ha
  show Calls Tryz.prog _ #[.pointer (some ⟨p, 0, none⟩), .iface 99 (.pointer (some ⟨q, 0, none⟩))] w _
  have hta := assert_sp_sp
  clear ha hp hq h1 h2
  go_enter Tryz.func119, Tryz.ntmps119
  go_wp2_with fail
  refine HA.out.mono ?_
  rintro e w' ⟨r, H, rfl, hs, hf, hb⟩
  have HS := Lib.hid hs
  have HF := Lib.hid hf
  have HB := Lib.hid hb
  clear hs hf hb
  go_wp2_with fail
  go_ret
  exact ⟨r, H, rfl, HS.out, HF.out, HB.out⟩

theorem orL_len (p q : Ps) : (orL p q).length ≤ p.length + q.length := by
  fun_induction orL p q with
  | case1 => simp
  | case2 => simp
  | case3 i a p j b q h ih => simp only [List.length_cons] at ih ⊢; omega
  | case4 i a p j b q h1 h2 ih => simp only [List.length_cons] at ih ⊢; omega
  | case5 i a p j b q h1 h2 ih => simp only [List.length_cons] at ih ⊢; omega
theorem nandL_len (p q : Ps) : (nandL p q).length ≤ p.length := by
  fun_induction nandL p q with
  | case1 => simp
  | case2 => simp
  | case3 i a p j b q h ih => exact ih
  | case4 i a p j b q h1 h2 ih => simp only [List.length_cons]; omega
  | case5 i a p j b q h1 h2 ih =>
    rw [List.length_append]
    split <;> simp <;> omega
theorem sok_nand {ps qs : Ps} (h1 : SOk ps) (h2 : SOk qs) : SOk (nandL ps qs) := by
  obtain ⟨a, b, _⟩ := nandL_ok ps qs h1.ok h2.ok h1.nz
  refine ⟨a, b, Nat.le_trans (nandL_len ps qs) h1.len, fun q hq => ?_⟩
  obtain ⟨y, hy, e⟩ := nandL_keys ps qs q hq
  rw [← e]; exact h1.small y hy
theorem sok_or {ps qs : Ps} (h1 : SOk ps) (h2 : SOk qs) (hl : ps.length + qs.length ≤ 900) : SOk (orL ps qs) := by
  obtain ⟨a, b, _⟩ := orL_ok ps qs h1.ok h2.ok h1.nz h2.nz
  refine ⟨a, b, Nat.le_trans (orL_len ps qs) (by omega), fun q hq => ?_⟩
  rcases orL_keys ps qs q hq with ⟨y, hy, e⟩ | ⟨y, hy, e⟩
  · rw [← e]; exact h1.small y hy
  · rw [← e]; exact h2.small y hy

/-- the array that is made of ascending numbers has just these -/
theorem made_nums (X : List Nat) (hX : Asc X) (hb : ∀ x ∈ X, x < 2048) : nums (madeP X X.length) = X := by
  have h : ∀ i, i ≤ X.length → ∀ x, x ∈ nums (madeP X i) ↔ x ∈ X.take i := by
    intro i
    induction i with
    | zero => intro _ x; simp [madeP, nums]
    | succ i ih =>
      intro hi x
      have h1 := (madeP_ok X i (Nat.le_of_succ_le hi)).1.ok
      have hm : X.getD i 0 ∈ X := by
        rw [List.getD_eq_getElem?_getD, List.getElem?_eq_getElem hi]; exact List.getElem_mem _
      have hk := hb _ hm
      rw [madeP_succ X i hi, (set_ok h1 _).2, sPut_mem, ih (Nat.le_of_succ_le hi), take_snoc0 X i hi, Nat.mod_eq_of_lt (by omega)]
      simp [or_comm]
  refine asc_ext _ _ (asc_nums (madeP_ok X X.length (Nat.le_refl _)).1.ok) hX fun x => ?_
  rw [h _ (Nat.le_refl _), List.take_length]

def roadT : List Stp := [⟨11, 0, 1, 0, 0, false⟩, ⟨12, 0, 1, 0, 0, false⟩, ⟨13, 0, 1, 0, 0, false⟩, ⟨14, 2, 0, 0, 0, false⟩, ⟨14, 3, 0, 0, 0, false⟩, ⟨14, 4, 0, 0, 0, false⟩]
def roadA (A B C : List Nat) : List An := [⟨false, 0, []⟩, ⟨false, 0, []⟩, ⟨false, 0, []⟩, ⟨false, 0, A⟩, ⟨false, 0, B⟩, ⟨false, 0, C⟩]
def roadV : Array Value := #[.int .i64 11, .int .i64 0, .int .i64 1, .int .u64 0, .int .i64 0, .bool false, .int .i64 12, .int .i64 0, .int .i64 1, .int .u64 0, .int .i64 0, .bool false, .int .i64 13, .int .i64 0, .int .i64 1, .int .u64 0, .int .i64 0, .bool false, .int .i64 14, .int .i64 2, .int .i64 0, .int .u64 0, .int .i64 0, .bool false, .int .i64 14, .int .i64 3, .int .i64 0, .int .u64 0, .int .i64 0, .bool false, .int .i64 14, .int .i64 4, .int .i64 0, .int .u64 0, .int .i64 0, .bool false]

theorem road_runs (ps qs : Ps) (h1 : SOk ps) (h2 : SOk qs) (hl : ps.length + qs.length ≤ 900) :
    Runs [.sp ps, .sp qs] roadT (roadA (nums (orL ps qs)) (nums (andL ps qs)) (nums (nandL ps qs))) [.sp ps, .sp qs, .sp (orL ps qs), .sp (andL ps qs), .sp (nandL ps qs)] := by
  have so := sok_or h1 h2 hl
  have sa := sok_and h1 h2
  have sn := sok_nand h1 h2
  have d1 := does11_two _ _ _ _ (makes_or_ss ps qs h1 h2) 99 rfl meth_sp_Or call_sp_Or [.sp ps, .sp qs] ⟨11, 0, 1, 0, 0, false⟩ rfl rfl rfl
  have d2 := does12_two _ _ _ _ (makes_and_ss ps qs h1.ok h2.ok (Nat.le_trans h1.len (by decide)) (Nat.le_trans h2.len (by decide))) 99 rfl meth_sp_And call_sp_And [.sp ps, .sp qs, .sp (orL ps qs)] ⟨12, 0, 1, 0, 0, false⟩ rfl rfl rfl
  have d3 := does13_two _ _ _ _ (makes_nand_ss ps qs h1 h2) 99 rfl meth_sp_Nand2 call_sp_Nand2 [.sp ps, .sp qs, .sp (orL ps qs), .sp (andL ps qs)] ⟨13, 0, 1, 0, 0, false⟩ rfl rfl rfl
  exact .cons (by simp) d1 (.cons (by simp) d2 (.cons (by simp) d3 (.cons (by simp) (does_nums _ ⟨14, 2, 0, 0, 0, false⟩ (orL ps qs) rfl rfl so)
    (.cons (by simp) (does_nums _ ⟨14, 3, 0, 0, 0, false⟩ (andL ps qs) rfl rfl sa) (.cons (by simp) (does_nums _ ⟨14, 4, 0, 0, 0, false⟩ (nandL ps qs) rfl rfl sn) (.nil _))))))

def bitsL (X : List Nat) : List Bool := (List.range 2048).map fun j => decide (j ∈ X)
theorem bitsL_len (X : List Nat) : (bitsL X).length = 2048 := by simp [bitsL]
theorem bitsL_get (X : List Nat) (hb : ∀ x ∈ X, x < 2048) (j : Nat) : (bitsL X).getD j false = decide (j ∈ X) := by
  unfold bitsL
  by_cases hj : j < 2048
  · simp [List.getD_eq_getElem?_getD, hj]
  · have : ¬ j ∈ X := fun h => hj (hb j h)
    simp [List.getD_eq_getElem?_getD, hj, this]
theorem bitsL_pos (X : List Nat) (hX : Asc X) (hb : ∀ x ∈ X, x < 2048) : Bsm.pos (bitsL X) = X := by
  refine asc_ext _ _ (Bsm.posn_sorted _ _) hX fun x => ?_
  rw [Bsm.mem_pos, bitsL_get X hb, decide_eq_true_iff]
theorem pos_two (how : Nat) (hh : how ≤ 3) (X Y Z : List Nat) (hX : ∀ x ∈ X, x < 2048) (hY : ∀ x ∈ Y, x < 2048) (hZ : Asc Z) (h : ∀ x, x ∈ Z ↔ two how (decide (x ∈ X)) (decide (x ∈ Y)) = true) : Bsm.pos (twos how (bitsL X) (bitsL Y)) = Z := by
  refine asc_ext _ _ (Bsm.posn_sorted _ _) hZ fun x => ?_
  rw [Bsm.mem_pos, twos_get how _ _ hh, bitsL_get X hX, bitsL_get Y hY, h]
theorem pos_or (X Y : List Nat) (hX : Asc X) (hY : Asc Y) (bX : ∀ x ∈ X, x < 2048) (bY : ∀ x ∈ Y, x < 2048) : Bsm.pos (twos 0 (bitsL X) (bitsL Y)) = sOr X Y := by
  obtain ⟨h1, h2⟩ := sOr_ok Y hX
  exact pos_two 0 (by omega) X Y _ bX bY h1 fun x => by rw [h2]; simp [two]
theorem pos_and (X Y : List Nat) (hX : Asc X) (hY : Asc Y) (bX : ∀ x ∈ X, x < 2048) (bY : ∀ x ∈ Y, x < 2048) : Bsm.pos (twos 1 (bitsL X) (bitsL Y)) = sAnd X Y := by
  obtain ⟨h1, h2⟩ := sAnd_ok hX hY
  exact pos_two 1 (by omega) X Y _ bX bY h1 fun x => by rw [h2]; simp [two]
theorem pos_nand (X Y : List Nat) (hX : Asc X) (hY : Asc Y) (bX : ∀ x ∈ X, x < 2048) (bY : ∀ x ∈ Y, x < 2048) : Bsm.pos (twos 2 (bitsL X) (bitsL Y)) = sNand X Y := by
  obtain ⟨h1, h2⟩ := sNand_ok hX hY
  exact pos_two 2 (by omega) X Y _ bX bY h1 fun x => by rw [h2]; simp [two]
theorem asc_sub_len {A B : List Nat} (hA : Asc A) (hB : Asc B) (h : ∀ x ∈ A, x ∈ B) : A.length ≤ B.length := by
  have e : A = B.filter fun x => decide (x ∈ A) := asc_ext _ _ hA (List.Pairwise.filter _ hB) fun x => by
    rw [List.mem_filter, decide_eq_true_iff]
    exact ⟨fun hx => ⟨h x hx, hx⟩, fun hx => hx.2⟩
  rw [e]
  exact List.length_filter_le _ _
theorem or_len_ge (X Y : List Nat) (hX : Asc X) (hY : Asc Y) : X.length ≤ (sOr X Y).length ∧ Y.length ≤ (sOr X Y).length := by
  obtain ⟨h1, h2⟩ := sOr_ok Y hX
  exact ⟨asc_sub_len hX h1 fun x h => (h2 x).2 (.inl h), asc_sub_len hY h1 fun x h => (h2 x).2 (.inr h)⟩
theorem rb_same (l : List Nat) : rb_u64s l = u64s l := rfl
end Go.Proofs.YtgifbdjifmoafaaGreat
