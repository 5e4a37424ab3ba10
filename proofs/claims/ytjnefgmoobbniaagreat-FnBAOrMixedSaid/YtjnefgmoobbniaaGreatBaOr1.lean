/- For the bitwise or of a sparse array and a dense one: spec.BAOr, the copy of a sparse array, the greater of two numbers, stores into a dense array. -/
import Derived.Test.YtjnefgmoobbniaaGreatBaNandDS
import Derived.Test.YtjnefgmoobbniaaGreatBaSets3
import Derived.Test.YtjnefgmoobbniaaGreatCopyTo
namespace Go.Proofs.YtjnefgmoobbniaaGreat
set_option linter.unusedVariables false
open Go.RowKit Bam

theorem sPut_le (S : List Nat) (k : Nat) : (sPut S k).length ≤ S.length + 1 := by
  unfold sPut
  split
  · omega
  · simp only [List.length_append, List.length_take, List.length_cons, List.length_drop]; omega
theorem sOr_succ (A B : List Nat) (i : Nat) (h : i < B.length) : sOr A (B.take (i + 1)) = sPut (sOr A (B.take i)) (B.getD i 0) := by
  unfold sOr
  rw [List.take_succ_eq_append_getElem h, List.foldl_append, show B.getD i 0 = B[i] by rw [List.getD_eq_getElem?_getD, List.getElem?_eq_getElem h]; rfl]
  rfl
theorem sOr_le (A B : List Nat) (i : Nat) : (sOr A (B.take i)).length ≤ A.length + i := by
  induction i with
  | zero => simp [sOr]
  | succ i ih =>
    by_cases h : i < B.length
    · rw [sOr_succ A B i h]
      have := sPut_le (sOr A (B.take i)) (B.getD i 0)
      omega
    · rw [List.take_of_length_le (by omega)]
      rw [List.take_of_length_le (by omega)] at ih
      omega
def OrLoop (A B : List Nat) (n : Nat) (w : World) (k : Nat) (s0 idx : Value) (wr : World) : Prop :=
  ∃ (i : Nat) (p : Option Addr) (m cc : Nat), s0 = .slice p m cc ∧ idx = .int .i64 (i : Int) ∧ i + k = n ∧ Us wr (.slice p m cc) (sOr A (B.take i)) ∧ Below w.heap.size w wr

set_option maxRecDepth 100000 in
set_option maxHeartbeats 2000000 in
theorem baor_c (A B : List Nat) (hA : A.length ≤ 3000) (hB : B.length ≤ 3000) : SetsC 17 A B (sOr A B) := by
  intro w s1 s2 h1 h2
  obtain ⟨a, c, rfl, -⟩ := h1.shape
  obtain ⟨b, d, rfl, hr⟩ := h2.shape
  obtain ⟨n, hn⟩ : ∃ n, B.length = n := ⟨_, rfl⟩
  obtain ⟨m, hm⟩ : ∃ m, A.length = m := ⟨_, rfl⟩
  rw [hn] at hr hB h2 ⊢
  rw [hm] at hA h1 ⊢
  have HN := Lib.hid hn
  have HM := Lib.hid hm
  have H1 := Lib.hid h1
  clear h1 h2 hn hm
  go_enter Tryz.func17, Tryz.ntmps17
  go_wp2_with fail
  go_loopg [0, 5] n (fun k s0 idx wr => OrLoop A B n w k s0 idx wr)
  case atStart => exact ⟨0, a, m, c, rfl, rfl, by omega, H1.out, Below.refl _ _⟩
  case round =>
    obtain ⟨i, p, z, cc, rfl, rfl, hik, hown, hbel⟩ := hrel
    have hsz := hbel.size
    have HO := Lib.hid hown
    have HB := Lib.hid hbel
    by_cases hi : i < n
    · obtain ⟨g, rfl, hcell⟩ := hr (by omega)
      have hc := hcell i hi
      have hc2 := cell_below hbel (Nat.le_refl _) hc
      have hsu := sOr_succ A B i (by rw [HN.out]; exact hi)
      have hle := sOr_le A B i
      have hh := put_any (.slice p z cc) _ (B.getD i 0) wr hown (by rw [HM.out] at hle; omega)
      rw [← hsu] at hh
      obtain ⟨X, hX⟩ : ∃ X, B.getD i 0 = X := ⟨_, rfl⟩
      rw [hX] at hc2 hh
      have HH := Lib.hid hh
      clear hcell hc hsu hh hown hbel hX hr hle
      cases gk with
      | zero => omega
      | succ k =>
        go_wp2_with fail
        refine HH.out.mono ?_
        rintro e w' ⟨v', rfl, hu, hb⟩
        obtain ⟨p', c', rfl, -⟩ := hu.shape
        have HU := Lib.hid hu
        have HB2 := Lib.hid (HB.out.trans (hb.mono HB.out.size))
        clear hu hb
        go_wp2_with fail
        go_roundg k
        case measure => omega
        case rel => exact ⟨i + 1, _, _, _, rfl, by go_num, by omega, HU.out, HB2.out⟩
    · obtain rfl : i = n := by omega
      clear hown hbel
      go_wp2_with fail
      go_ret
      refine ⟨_, rfl, ?_, HB.out⟩
      have h := HO.out
      rw [List.take_of_length_le (by rw [HN.out]; exact Nat.le_refl _)] at h
      exact h

def MaxuRel (x y : Nat) (w : World) (k : Nat) (m i : Value) (wr : World) : Prop := wr = w ∧ ((k = 1 ∧ m = .int .u64 (x : Int) ∧ i = .int .i64 1) ∨ (k = 0 ∧ m = .int .u64 ((Nat.max x y : Nat) : Int) ∧ i = .int .i64 2))
theorem maxu_any (g x y : Nat) (w : World) (hx : w.cell? ⟨g, 0, none⟩ = some (.int .u64 (x : Int))) (hy : w.cell? ⟨g, 1, none⟩ = some (.int .u64 (y : Int))) :
    Calls Tryz.prog 94 #[.slice (some ⟨g, 0, none⟩) 2 2] w fun e w' => e = .returned (.int .u64 ((Nat.max x y : Nat) : Int)) ∧ w = w' := by
  go_enter Tryz.func94, Tryz.ntmps94
  go_wp2_with fail
  go_loopg [3, 4] 1 (fun k m i wr => MaxuRel x y w k m i wr)
  case atStart => exact ⟨rfl, .inl ⟨rfl, rfl, rfl⟩⟩
  case round =>
    obtain ⟨rfl, ⟨rfl, rfl, rfl⟩ | ⟨rfl, rfl, rfl⟩⟩ := hrel
    · by_cases hxy : x < y
      · have hd : decide (x < y) = true := by rw [decide_eq_true_iff]; exact hxy
        have e : Nat.max x y = y := Nat.max_eq_right (Nat.le_of_lt hxy)
        have HE := Lib.hid e
        clear hxy e
        go_wp2_with fail
        go_roundg 0
        case measure => omega
        case rel => exact ⟨rfl, .inr ⟨rfl, by rw [HE.out], rfl⟩⟩
      · have hd : decide (x < y) = false := by rw [decide_eq_false_iff_not]; exact hxy
        have e : Nat.max x y = x := Nat.max_eq_left (by omega)
        have HE := Lib.hid e
        clear hxy e
        go_wp2_with fail
        go_roundg 0
        case measure => omega
        case rel => exact ⟨rfl, .inr ⟨rfl, by rw [HE.out], rfl⟩⟩
    · go_wp2_with fail
      go_ret
      exact ⟨rfl, rfl⟩

set_option maxRecDepth 100000 in
theorem copysp_any (p : Nat) (F : List Nat) (ps : Ps) (w : World) (h : SpAt w p F ps) (hn : ps.length ≤ 1000) :
    Calls Tryz.prog 86 #[.pointer (some ⟨p, 0, none⟩)] w fun e w' =>
      ∃ (r : Nat) (H : List Nat), e = .returned (.pointer (some ⟨r, 0, none⟩)) ∧ SpAt w' r H ps ∧ (∀ x ∈ H, w.heap.size ≤ x) ∧ Below w.heap.size w w' := by
  obtain ⟨a1, c1, a2, c2, h0, h1, hcells, hU, hW⟩ := h.cells
  have hl1 : (ps.map Prod.fst).length = ps.length := List.length_map _
  have hl2 : (ps.map Prod.snd).length = ps.length := List.length_map _
  have s1 : Sl w (.slice a2 ps.length c2) (u64s (ps.map Prod.fst)) := Sl.of_owns hU
  have s2 : Sl w (.slice a1 ps.length c1) (u64s (ps.map Prod.snd)) := Sl.of_owns hW
  obtain ⟨P1, hP1⟩ : ∃ P, ps.map Prod.fst = P := ⟨_, rfl⟩
  obtain ⟨P2, hP2⟩ : ∃ P, ps.map Prod.snd = P := ⟨_, rfl⟩
  obtain ⟨n, hN⟩ : ∃ n, ps.length = n := ⟨_, rfl⟩
  rw [hP1] at hl1 s1
  rw [hP2] at hl2 s2
  rw [hN] at hl1 hl2 s1 s2 h0 h1 hn
  have HR1 : Hid ((u64s P1) ++ (List.replicate n (Value.int .u64 0)).drop (u64s P1).length = u64s P1) := Lib.hid (by rw [u64s_len, hl1, List.drop_eq_nil_of_le (by simp), List.append_nil])
  have HR2 : Hid ((u64s P2) ++ (List.replicate n (Value.int .u64 0)).drop (u64s P2).length = u64s P2) := Lib.hid (by rw [u64s_len, hl2, List.drop_eq_nil_of_le (by simp), List.append_nil])
  have HL1 : Hid ((u64s P1).length = n) := Lib.hid (by rw [u64s_len, hl1])
  have HL2 : Hid ((u64s P2).length = n) := Lib.hid (by rw [u64s_len, hl2])
  have HS1 := Lib.hid s1
  have HS2 := Lib.hid s2
  have HP1 := Lib.hid hP1
  have HP2 := Lib.hid hP2
  have HN := Lib.hid hN
  clear h hcells hU hW hl1 hl2 s1 s2 hP1 hP2 hN
  go_enter Tryz.func86, Tryz.ntmps86
  go_wp2_with (first
    | (at_make; refine wpList_make1 rfl _ _ 91 rfl w.heap.size 74 (.int .u64 0) 8 Tryz.underlying91 info_blk rfl _ _ _ _ n rfl rfl rfl rfl (by omega) (by unfold maxLen; omega) (Nat.le_refl _) ?_; intro w1 hown1 hb1 hs1; have e0 := cell_below hb1 (Nat.le_refl _) h0; have HOW := Lib.hid hown1; have HB1 := Lib.hid hb1; have hsz1 := hb1.size; clear hown1 hb1 hs1)
    | (refine wpList_copySl rfl _ _ 91 91 rfl w.heap.size 74 (.int .u64 0) 8 Tryz.underlying91 info_blk w.heap.size n n (List.replicate n (.int .u64 0)) rfl HOW.out (.slice a1 n c1) (u64s P2) rfl (HS2.out.below rfl HB1.out) (by rw [HL2.out]; omega) (u64s_one _) ?_; intro w2 hown2 hg2 hb2; rw [HR2.out] at hown2; have HOW2 := Lib.hid hown2; have HB2 := Lib.hid (HB1.out.trans hb2); have f1 := cell_below HB2.out (Nat.le_refl _) h1; have hsz2 := HB2.out.size; clear hown2 hg2 hb2 e0 h0)
    | (at_make; refine wpList_make1 rfl _ _ 92 rfl w.heap.size 34 (.int .u64 0) 8 Tryz.underlying92 info_u64 rfl _ _ _ _ n rfl rfl rfl rfl (by omega) (by unfold maxLen; omega) hsz2 ?_; intro w3 hown3 hb3 hs3; have f3 := cell_below (HB2.out.trans (hb3.mono hsz2)) (Nat.le_refl _) h1; have HOW3 := Lib.hid hown3; have HB3 := Lib.hid (HB2.out.trans (hb3.mono hsz2)); have HOW23 := Lib.hid (own_below HOW2.out hb3); have hsz3 := HB3.out.size; clear hown3 hb3 hs3 f1)
    | (refine wpList_copySl rfl _ _ 92 92 rfl w.heap.size 34 (.int .u64 0) 8 Tryz.underlying92 info_u64 _ n n (List.replicate n (.int .u64 0)) rfl HOW3.out (.slice a2 n c2) (u64s P1) rfl (HS1.out.below rfl HB3.out) (by rw [HL1.out]; omega) (u64s_one _) ?_; intro w4 hown4 hg4 hb4; rw [HR1.out] at hown4; have HOW4 := Lib.hid hown4; have HB4 := Lib.hid (HB3.out.trans hb4); have HOW24 := Lib.hid ((Fr.of_grown_same hg4).own HOW23.out (row_row HOW23.out HOW3.out (by decide))); clear hown4 hg4 hb4))
  go_ret
  have hsz4 := HB4.out.size
  have o6 := HOW4.out
  have o7 := HOW24.out
  rw [← HP1.out] at o6
  rw [← HP2.out] at o7
  obtain ⟨H, hsp, hfr⟩ := acc_end HN.out hsz4 o6 o7
  exact ⟨_, H, rfl, hsp, hfr, HB4.out.alloc hsz4 _⟩

/-- a word of a dense array is written -/
theorem DeAt.store {wr : World} {r : Nat} {F V : List Nat} {lo hi : Nat} {any : Bool} (h : DeAt wr r F V lo hi any) {C : Nat} (hC : V.length = C) {X : Nat} (hX : X < C) {B : Nat} (hF : ∀ x ∈ F, B ≤ x) :
    ∃ g c, wr.cell? ⟨r, 0, none⟩ = some (.slice (some ⟨g, 0, none⟩) C c) ∧ wr.frozen? ⟨g, X, none⟩ = false ∧ (∃ X0, wr.cell? ⟨g, X, none⟩ = some X0) ∧ B ≤ g ∧ ∀ R : Nat, DeAt (wr.setCell ⟨g, X, none⟩ (.int .u64 (R : Int))) r F (V.set X R) lo hi any := by
  subst hC
  obtain ⟨a, c, h1, h2, rfl⟩ := h
  have hga : ∃ g, a = some ⟨g, 0, none⟩ ∧ ∃ X0, wr.cell? ⟨g, X, none⟩ = some X0 := by
    rcases h2.cases with ⟨e, e2⟩ | ⟨g, cap, e, _, _, _, hc⟩
    · rw [e2] at hX; simp at hX
    · injection e with e; exact ⟨g, e, _, hc X hX⟩
  obtain ⟨g, rfl, hx⟩ := hga
  refine ⟨g, c, h1.cell 0 rfl, World.ownsRow.frozenAt (h2.to rfl) X, hx, hF g (by rw [obl_some]; simp), fun R => ?_⟩
  exact (DeAt.word rfl h1 h2 X R).1
/-- a dense array's words are turned as one row -/
theorem DeAt.turned {wr w4 : World} {r g c C : Nat} {F V V' : List Nat} {lo hi : Nat} {any : Bool} (h1 : Blk wr r 90 #[.slice (some ⟨g, 0, none⟩) C c, .int .u64 (lo : Int), .int .u64 (hi : Int), .bool any]) (h2 : Ue 74 wr (.slice (some ⟨g, 0, none⟩) C c) V) (hF : F = r :: obl (.slice (some ⟨g, 0, none⟩) C c)) (hC : V'.length = C)
    (own4 : w4.ownsRow 0 74 1 (.slice (some ⟨g, 0, none⟩) C c) C (u64s V')) (hf : Fr [g] [g] wr w4) : DeAt w4 r F V' lo hi any := by
  subst hC
  have hpg : r ≠ g := fun e => row_blk h2 h1 (by decide) (by rw [e]; rfl)
  exact ⟨some ⟨g, 0, none⟩, c, hf.blk h1 (by rw [List.mem_singleton]; exact hpg), Ue.of own4, hF⟩
end Go.Proofs.YtjnefgmoobbniaaGreat
