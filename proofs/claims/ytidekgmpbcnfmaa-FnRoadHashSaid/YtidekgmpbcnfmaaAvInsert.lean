/- Walks of the AVL tree's Insert and Get of several entries. -/
import Derived.Test.YtidekgmpbcnfmaaAvOps
namespace Go.Proofs.Ytidekgmpbcnfmaa
set_option linter.unusedVariables false
open Go.RowKit Avm

def entv (e : Int × Int) : Value := .iface 99 (.agg #[.int .i64 e.1, .int .i64 e.2])
def ents (es : List (Int × Int)) : List Value := es.map entv
theorem ents_len (es : List (Int × Int)) : (ents es).length = es.length := by simp [ents]
theorem ents_at (es : List (Int × Int)) (i : Nat) (h : i < es.length) : (ents es)[i]? = some (.iface 99 (.agg #[.int .i64 (es.getD i (0, 0)).1, .int .i64 (es.getD i (0, 0)).2])) := by
  simp [ents, entv, List.getElem?_eq_getElem h]
theorem info_entry : (Try.prog.info? 92).map (fun i => (i.zero, i.size, i.bytes)) = some (some Value.nilIface, 1, 16) := by kernel_rfl
def insAll (l : List (Int × Int)) (es : List (Int × Int)) : List (Int × Int) := es.foldl (fun l e => insS l e.1 e.2) l
theorem insAll_succ (l es : List (Int × Int)) (i : Nat) (h : i < es.length) : insAll l (es.take (i + 1)) = insS (insAll l (es.take i)) (es.getD i (0, 0)).1 (es.getD i (0, 0)).2 := by
  unfold insAll
  rw [List.take_succ_eq_append_getElem h, List.foldl_append]
  simp [List.getD_eq_getElem?_getD, h]
theorem insAll_len (l es : List (Int × Int)) : (insAll l es).length ≤ l.length + es.length := by
  induction es generalizing l with
  | nil => simp [insAll]
  | cons e es ih =>
    have h1 := ih (insS l e.1 e.2)
    have h2 := insS_len l e.1 e.2
    show (insAll (insS l e.1 e.2) es).length ≤ _
    simp only [List.length_cons]
    omega
def outO (l es : List (Int × Int)) (q : Nat) : Option Int := look (insAll l (es.take q)) (es.getD q (0, 0)).1
def outI (l es : List (Int × Int)) (q : Nat) : Value := ovv (es.getD q (0, 0)).1 (outO l es q)
theorem range_snoc {α : Type} (f : Nat → α) (i : Nat) : (List.range (i + 1)).map f = (List.range i).map f ++ [f i] := by rw [List.range_succ, List.map_append]; rfl
theorem tr_own {w : World} {i : Nat} {t : T} (h : Tr w i t) {B : Nat} {e : TypeId} {size : Nat} {u : Value} {n : Nat} {xs : List Value} (ho : w.ownsRow B e size u n xs) (h1 : e ≠ 96) (h2 : e ≠ 94) : ∀ k ∈ obl u, k ∉ i :: rb t := by
  intro k hk hm
  rcases List.mem_cons.1 hm with rfl | hm
  · obtain ⟨a, b, c, hh⟩ := h.head
    exact row_blk ho hh h1 (mem_obl.1 hk)
  · cases t with
    | nil => cases hm
    | nd b _ _ _ _ _ =>
      rw [List.mem_singleton.1 hm] at hk
      exact row_blk ho h.sub.1 h2 (mem_obl.1 hk)

def InsLoop (L0 es : List (Int × Int)) (i' : Nat) (n G : Nat) (w : World) (k : Nat) (s6 idx : Value) (wr : World) : Prop :=
  ∃ (j : Nat) (t : T) (q : Option Addr) (c : Nat), s6 = .slice q j c ∧ idx = .int .i64 (j : Int) ∧ j + k = n ∧ Tr wr i' t ∧ t.toL = insAll L0 (es.take j) ∧ (∀ b ∈ rb t, w.heap.size ≤ b) ∧ (∀ b ∈ t.blocks, G ≤ b) ∧ wr.ownsRow w.heap.size 92 1 (.slice q j c) j ((List.range j).map (outI L0 es)) ∧ Below w.heap.size w wr

set_option maxRecDepth 100000 in
set_option maxHeartbeats 2000000 in
theorem inserts_any (i : Nat) (t : T) (v : Value) (es : List (Int × Int)) (w : World) (h : Tr w i t) (hv : Sl w v (ents es)) (h0 : 0 < es.length) (hn : es.length ≤ 1000) (hL : t.toL.length ≤ 100000) (G : Nat) (hG : G ≤ w.heap.size ∧ ∀ b ∈ t.blocks, G ≤ b) :
    Calls Try.prog 26 #[.pointer (some ⟨i, 0, none⟩), v] w fun e w' => ∃ i' t' q c, e = .returned (.tuple #[.pointer (some ⟨i', 0, none⟩), .slice q es.length c]) ∧ Tr w' i' t' ∧ t'.toL = insAll t.toL es ∧
      w'.ownsRow w.heap.size 92 1 (.slice q es.length c) es.length ((List.range es.length).map (outI t.toL es)) ∧ Below w.heap.size w w' ∧ ∀ b ∈ t'.blocks, G ≤ b := by
  obtain ⟨a, n, cap, rfl, hl, hc, hm, hr⟩ := hv
  rw [ents_len] at hl
  obtain ⟨b, off, rfl, hcell⟩ := hr (by omega)
  have HC := Lib.hid hcell
  have HN := Lib.hid hl
  have HT := Lib.hid h
  rw [hl] at hn h0 ⊢
  obtain ⟨L0, hL0⟩ : ∃ L, t.toL = L := ⟨_, rfl⟩
  rw [hL0] at hL ⊢
  have HL0 := Lib.hid hL0
  have t0 : ((n : Int) == 0) = false := by rw [beq_eq_false_iff_ne]; omega
  have hself : w.heap.size ≤ w.heap.size := Nat.le_refl _
  have HGB := Lib.hid hG
  clear hcell hl hc hm hr h hL0 hG
  go_enter Try.func26, Try.ntmps26
  go_wp2_with (at_make; refine wpList_make2 rfl _ _ 71 rfl w.heap.size 92 Value.nilIface 16 Try.underlying71 info_entry rfl _ _ _ _ 0 n rfl rfl rfl rfl (Nat.zero_le _) (by omega) (by unfold maxLen; omega) hself ?_; intro w1 hown1 hb1 hs1; have HOW1 := Lib.hid hown1; have HB1 := Lib.hid hb1; have hs1' := HB1.out.size; clear hown1 hb1 hs1)
  refine (copyimm_any i t w1 (HT.out.below HB1.out)).mono ?_
  rintro e w2 ⟨i', t', rfl, ht2, htl, hi2, hb2, hbe2, hbl2⟩
  have HGT := Lib.hid (show ∀ b ∈ t'.blocks, G ≤ b from fun b hb => by
    rcases hbl2 b hb with h1 | h1
    · exact HGB.out.2 b h1
    · have := HGB.out.1; omega)
  clear hbl2
  rw [HL0.out] at htl
  have HT2 := Lib.hid ht2
  have HTL := Lib.hid htl
  have HRB := Lib.hid (show ∀ b ∈ rb t', w.heap.size ≤ b from fun b hb => Nat.le_trans hs1' (hb2 b hb))
  have HO2 := Lib.hid (show w2.ownsRow w.heap.size 92 1 _ 0 _ from by
    have h1 := HOW1.out
    refine ⟨h1.1, ?_⟩
    rcases h1.2 with h0 | ⟨g, cap, cur, e, hbg, hg, r⟩
    · exact .inl h0
    · exact .inr ⟨g, cap, cur, e, hbg, (hbe2.block g (Array.getElem?_eq_some_iff.1 hg).1).trans hg, r⟩)
  have HB2 := Lib.hid (HB1.out.trans (hbe2.mono hs1'))
  have hi3 : w.heap.size ≤ i' := by omega
  clear ht2 htl hb2 hbe2 HOW1 HB1 HT
  go_wp2_with fail
  go_loopg [6, 9, 22] n (fun k s6 s9 idx wr => InsLoop L0 es i' n G w k s6 idx wr)
  case atStart => exact ⟨0, t', _, _, rfl, rfl, by omega, HT2.out, by simp [insAll, HTL.out], HRB.out, HGT.out, HO2.out, HB2.out⟩
  case round =>
    clear HT2 HTL HRB HO2 HB2 HGT
    obtain ⟨j, t1, q, c, rfl, rfl, hjk, htr, htl, hrb, hgt, hown, hbel⟩ := hrel
    have HGT := Lib.hid hgt
    clear hgt
    have HTR := Lib.hid htr
    have HTL := Lib.hid htl
    have HRB := Lib.hid hrb
    have HO := Lib.hid hown
    have HB := Lib.hid hbel
    have hsz := hbel.size
    by_cases hj : j < n
    · have hce := HC.out j _ (ents_at es j (by rw [HN.out]; exact hj))
      rw [← hbel.cell (World.block_lt_of_cell? w _ hce)] at hce
      have hlen : t1.toL.length < 9223372036854775807 := by
        rw [htl]
        have := insAll_len L0 (es.take j)
        rw [List.length_take] at this
        omega
      have hsu := insAll_succ L0 es j (by rw [HN.out]; exact hj)
      have hou : outI L0 es j = ovv (es.getD j (0, 0)).1 (look t1.toL (es.getD j (0, 0)).1) := by unfold outI outO; rw [htl]
      obtain ⟨k0, hk0⟩ : ∃ x, (es.getD j (0, 0)).1 = x := ⟨_, rfl⟩
      obtain ⟨v0, hv0⟩ : ∃ x, (es.getD j (0, 0)).2 = x := ⟨_, rfl⟩
      rw [hk0, hv0] at hce hsu
      rw [hk0] at hou
      have hin := insert_any i' t1 k0 v0 wr htr hlen G ⟨Nat.le_trans HGB.out.1 hsz, HGT.out⟩
      have HIN := Lib.hid hin
      have HSU := Lib.hid hsu
      have HOU := Lib.hid hou
      have i1 : (j : Int) < (n : Int) := by omega
      have i2 : (0 : Int) ≤ (j : Int) := by omega
      clear htr htl hrb hown hbel hlen hsu hou hk0 hv0 hin
      cases gk with
      | zero => omega
      | succ k =>
        go_wp2_with fail
        refine HIN.out.mono ?_
        rintro e w3 ⟨rfl, t2, ht2, htl2, hf2, hgt2⟩
        have HGT2 := Lib.hid hgt2
        clear hgt2
        have hb3 : Below w.heap.size w w3 := HB.out.trans (hf2.below (B := w.heap.size) (fun x hx => by
          rcases List.mem_cons.1 hx with rfl | hx
          · exact hi3
          · exact HRB.out x hx) hsz)
        have ho3 := hf2.own HO.out (tr_own HTR.out HO.out (by decide) (by decide))
        have hr3 : ∀ b ∈ rb t2, w.heap.size ≤ b := fun b hb => by
          rcases hf2.next b (List.mem_cons_of_mem _ hb) with h1 | h1
          · rcases List.mem_cons.1 h1 with rfl | h1
            · exact hi3
            · exact HRB.out b h1
          · omega
        have HT3 := Lib.hid ht2
        have HL3 : Hid (t2.toL = insAll L0 (es.take (j + 1))) := Lib.hid (by rw [htl2, HSU.out, HTL.out])
        have HB3 := Lib.hid hb3
        have HO3 := Lib.hid ho3
        have HR3 := Lib.hid hr3
        have hs3 := hb3.size
        have HOUT := HOU.out
        clear ht2 htl2 hf2 hb3 ho3 hr3 HOU
        cases hlk : look t1.toL k0 with
        | none =>
          rw [hlk] at HOUT
          have HOU := Lib.hid HOUT
          clear HOUT hlk
          rw [show ovv k0 none = Value.nilIface from rfl]
          go_wp2_with (at_builtin; refine wpList_append1 rfl _ _ 71 rfl w.heap.size 92 Value.nilIface 16 Try.underlying71 info_entry rfl (.slice q j c) j _ rfl HO3.out Value.nilIface rfl rfl (by unfold maxLen; omega) (by omega) (by omega) ?_; intro g5 k5 w5 hown5 hg5 hb5; have HO5 := Lib.hid hown5; have HB5 := Lib.hid (HB3.out.trans hb5); have HT5 := Lib.hid (HT3.out.row HO3.out (by decide) (by decide) (Fr.of_grown (v' := .slice q j c) hg5 (fun k hk => .inl hk))); clear hown5 hg5 hb5)
          go_roundg k
          case measure => omega
          case rel => exact ⟨j + 1, t2, _, k5, rfl, by go_num, by omega, HT5.out, HL3.out, HR3.out, HGT2.out, by rw [range_snoc, HOU.out]; exact HO5.out, HB5.out⟩
        | some y =>
          rw [hlk] at HOUT
          have HOU := Lib.hid HOUT
          clear HOUT hlk
          rw [show ovv k0 (some y) = .iface 99 (.agg #[.int .i64 k0, .int .i64 y]) from rfl]
          go_wp2_with (at_builtin; refine wpList_append1 rfl _ _ 71 rfl w.heap.size 92 Value.nilIface 16 Try.underlying71 info_entry rfl (.slice q j c) j _ rfl HO3.out (.iface 99 (.agg #[.int .i64 k0, .int .i64 y])) rfl rfl (by unfold maxLen; omega) (by omega) (by omega) ?_; intro g5 k5 w5 hown5 hg5 hb5; have HO5 := Lib.hid hown5; have HB5 := Lib.hid (HB3.out.trans hb5); have HT5 := Lib.hid (HT3.out.row HO3.out (by decide) (by decide) (Fr.of_grown (v' := .slice q j c) hg5 (fun k hk => .inl hk))); clear hown5 hg5 hb5)
          go_roundg k
          case measure => omega
          case rel => exact ⟨j + 1, t2, _, k5, rfl, by go_num, by omega, HT5.out, HL3.out, HR3.out, HGT2.out, by rw [range_snoc, HOU.out]; exact HO5.out, HB5.out⟩
    · obtain rfl : j = n := by omega
      rw [List.take_of_length_le (by rw [HN.out]; exact Nat.le_refl _)] at htl
      have HTL := Lib.hid htl
      clear htr htl hrb hown hbel
      go_wp2_with fail
      go_ret2
      exact ⟨i', t1, q, c, rfl, HTR.out, HTL.out, HO.out, HB.out, HGT.out⟩

def GetLoop (L es : List (Int × Int)) (n : Nat) (w : World) (k : Nat) (s5 idx : Value) (wr : World) : Prop :=
  ∃ (j : Nat) (q : Option Addr) (c : Nat), s5 = .slice q j c ∧ idx = .int .i64 (j : Int) ∧ j + k = n ∧ wr.ownsRow w.heap.size 92 1 (.slice q j c) j ((List.range j).map fun q => ovv (es.getD q (0, 0)).1 (look L (es.getD q (0, 0)).1)) ∧ Below w.heap.size w wr

set_option maxRecDepth 100000 in
set_option maxHeartbeats 2000000 in
theorem gets_any (i : Nat) (t : T) (v : Value) (es : List (Int × Int)) (w : World) (h : Tr w i t) (hv : Sl w v (ents es)) (hn : es.length ≤ 1000) :
    Calls Try.prog 29 #[.pointer (some ⟨i, 0, none⟩), v] w fun e w' => ∃ q c, e = .returned (.slice q es.length c) ∧
      w'.ownsRow w.heap.size 92 1 (.slice q es.length c) es.length ((List.range es.length).map fun q => ovv (es.getD q (0, 0)).1 (look t.toL (es.getD q (0, 0)).1)) ∧ Below w.heap.size w w' := by
  obtain ⟨a, n, cap, rfl, hl, hc, hm, hr⟩ := hv
  rw [ents_len] at hl
  have HR := Lib.hid hr
  have HN := Lib.hid hl
  have HT := Lib.hid h
  rw [hl] at hn ⊢
  obtain ⟨L, hL⟩ : ∃ L, t.toL = L := ⟨_, rfl⟩
  rw [hL]
  have HL := Lib.hid hL
  have hself : w.heap.size ≤ w.heap.size := Nat.le_refl _
  clear hl hc hm hr h hL
  go_enter Try.func29, Try.ntmps29
  go_wp2_with (at_make; refine wpList_make2 rfl _ _ 71 rfl w.heap.size 92 Value.nilIface 16 Try.underlying71 info_entry rfl _ _ _ _ 0 n rfl rfl rfl rfl (Nat.zero_le _) (by omega) (by unfold maxLen; omega) hself ?_; intro w1 hown1 hb1 hs1; have HOW1 := Lib.hid hown1; have HB1 := Lib.hid hb1; have hs1' := HB1.out.size; clear hown1 hb1 hs1)
  go_loopg [5, 7, 13] n (fun k s5 s7 idx wr => GetLoop L es n w k s5 idx wr)
  case atStart => exact ⟨0, _, _, rfl, rfl, by omega, HOW1.out, HB1.out⟩
  case round =>
    clear HOW1 HB1
    obtain ⟨j, q, c, rfl, rfl, hjk, hown, hbel⟩ := hrel
    have HO := Lib.hid hown
    have HB := Lib.hid hbel
    have hsz := hbel.size
    by_cases hj : j < n
    · obtain ⟨b, off, rfl, hcell⟩ := HR.out (by omega)
      have hce := hcell j _ (ents_at es j (by rw [HN.out]; exact hj))
      rw [← hbel.cell (World.block_lt_of_cell? w _ hce)] at hce
      obtain ⟨k0, hk0⟩ : ∃ x, (es.getD j (0, 0)).1 = x := ⟨_, rfl⟩
      obtain ⟨v0, hv0⟩ : ∃ x, (es.getD j (0, 0)).2 = x := ⟨_, rfl⟩
      rw [hk0, hv0] at hce
      have hin := get_any i t k0 v0 wr (HT.out.below (hbel.mono (Nat.le_refl _)))
      rw [HL.out] at hin
      have HIN := Lib.hid hin
      have HK0 := Lib.hid hk0
      have i1 : (j : Int) < (n : Int) := by omega
      have i2 : (0 : Int) ≤ (j : Int) := by omega
      clear hown hbel hk0 hv0 hin hcell
      cases gk with
      | zero => omega
      | succ k =>
        go_wp2_with fail
        refine HIN.out.mono ?_
        rintro e w3 ⟨rfl, hb3⟩
        have HO3 := Lib.hid (show w3.ownsRow w.heap.size 92 1 (.slice q j c) j _ from (Fr.of_below [] hb3).own HO.out (fun _ _ h => by cases h))
        have HB3 := Lib.hid (HB.out.trans (hb3.mono hsz))
        have hs3 := HB3.out.size
        have HOUT : ovv (es.getD j (0, 0)).1 (look L (es.getD j (0, 0)).1) = ovv k0 (look L k0) := by rw [HK0.out]
        clear hb3
        cases hlk : look L k0 with
        | none =>
          rw [hlk] at HOUT
          have HOU := Lib.hid HOUT
          clear HOUT hlk
          rw [show ovv k0 none = Value.nilIface from rfl]
          go_wp2_with (at_builtin; refine wpList_append1 rfl _ _ 71 rfl w.heap.size 92 Value.nilIface 16 Try.underlying71 info_entry rfl (.slice q j c) j _ rfl HO3.out Value.nilIface rfl rfl (by unfold maxLen; omega) (by omega) (by omega) ?_; intro g5 k5 w5 hown5 hg5 hb5; have HO5 := Lib.hid hown5; have HB5 := Lib.hid (HB3.out.trans hb5); clear hown5 hg5 hb5)
          go_roundg k
          case measure => omega
          case rel => exact ⟨j + 1, _, k5, rfl, by go_num, by omega, by rw [range_snoc, HOU.out]; exact HO5.out, HB5.out⟩
        | some y =>
          rw [hlk] at HOUT
          have HOU := Lib.hid HOUT
          clear HOUT hlk
          rw [show ovv k0 (some y) = .iface 99 (.agg #[.int .i64 k0, .int .i64 y]) from rfl]
          go_wp2_with (at_builtin; refine wpList_append1 rfl _ _ 71 rfl w.heap.size 92 Value.nilIface 16 Try.underlying71 info_entry rfl (.slice q j c) j _ rfl HO3.out (.iface 99 (.agg #[.int .i64 k0, .int .i64 y])) rfl rfl (by unfold maxLen; omega) (by omega) (by omega) ?_; intro g5 k5 w5 hown5 hg5 hb5; have HO5 := Lib.hid hown5; have HB5 := Lib.hid (HB3.out.trans hb5); clear hown5 hg5 hb5)
          go_roundg k
          case measure => omega
          case rel => exact ⟨j + 1, _, k5, rfl, by go_num, by omega, by rw [range_snoc, HOU.out]; exact HO5.out, HB5.out⟩
    · obtain rfl : j = n := by omega
      clear hown hbel
      go_wp2_with fail
      go_ret
      exact ⟨q, c, rfl, HO.out, HB.out⟩
end Go.Proofs.Ytidekgmpbcnfmaa
