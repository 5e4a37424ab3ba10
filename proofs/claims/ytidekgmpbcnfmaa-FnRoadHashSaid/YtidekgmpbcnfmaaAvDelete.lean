/- Walk of the AVL tree's Delete of several entries. -/
import Derived.Test.YtidekgmpbcnfmaaAvDel
import Derived.Test.YtidekgmpbcnfmaaAvAll
namespace Go.Proofs.Ytidekgmpbcnfmaa
set_option linter.unusedVariables false
open Go.RowKit Avm

theorem delAll_succ (l es : List (Int × Int)) (i : Nat) (h : i < es.length) : delAll l (es.take (i + 1)) = (delAll l (es.take i)).filter (fun x => decide (x.1 ≠ (es.getD i (0, 0)).1)) := by
  unfold delAll
  rw [List.take_succ_eq_append_getElem h, List.foldl_append]
  simp [List.getD_eq_getElem?_getD, h, delS]
theorem tr_own2 {w : World} {i : Nat} {t : T} (h : Tr w i t) {B : Nat} {e : TypeId} {size : Nat} {u : Value} {n : Nat} {xs : List Value} (ho : w.ownsRow B e size u n xs) (h1 : e ≠ 96) (h2 : e ≠ 94) : ∀ k ∈ obl u, k ∉ i :: t.blocks := by
  intro k hk hm
  rcases List.mem_cons.1 hm with rfl | hm
  · obtain ⟨a, b, c, hh⟩ := h.head
    exact row_blk ho hh h1 (mem_obl.1 hk)
  · obtain ⟨cs, hb⟩ := at_blk h.sub hm
    exact row_blk ho hb h2 (mem_obl.1 hk)
theorem at_nd {w : World} : ∀ {t : T} {b : Nat}, At w t → b ∈ t.blocks → ∃ bal l r k v, Nd w b bal l r k v
  | .nil, _, _, h => by cases h
  | .nd c bal l k v r, b, ⟨h1, h2, h3⟩, hb => by
    rcases List.mem_cons.1 hb with rfl | hb
    · exact ⟨_, _, _, _, _, h1⟩
    · rcases List.mem_append.1 hb with hb | hb
      · exact at_nd h2 hb
      · exact at_nd h3 hb
theorem nd_two {w : World} {b : Nat} {bal : Int} {l r : Option Addr} {k v : Int} (h : Nd w b bal l r k v) {off : Nat} {t1 t2 : TypeId} {u1 u2 : Value} (c0 : w.cell? ⟨b, off, none⟩ = some (.iface t1 u1)) (c1 : w.cell? ⟨b, off + 1, none⟩ = some (.iface t2 u2)) : False := by
  rw [cell_of_row w b _ _ _ _ h] at c0 c1
  match off, c0, c1 with
  | 0, c0, _ => simp at c0
  | 1, c0, _ => simp at c0
  | 2, c0, _ => simp at c0
  | 3, _, c1 => simp at c1
  | _ + 4, c0, _ => simp at c0
def delI (l es : List (Int × Int)) (q : Nat) : Value := ovv (es.getD q (0, 0)).1 (look (delAll l (es.take q)) (es.getD q (0, 0)).1)

def DelLoop (L0 es : List (Int × Int)) (B0 : List Nat) (i' : Nat) (n : Nat) (w : World) (k : Nat) (s6 idx : Value) (wr : World) : Prop :=
  ∃ (j : Nat) (t : T) (q : Option Addr) (c : Nat), s6 = .slice q j c ∧ idx = .int .i64 (j : Int) ∧ j + k = n ∧ Tr wr i' t ∧ t.toL = delAll L0 (es.take j) ∧ (∀ b ∈ t.blocks, b ∈ B0 ∨ w.heap.size ≤ b) ∧ wr.ownsRow w.heap.size 92 1 (.slice q j c) j ((List.range j).map (delI L0 es)) ∧ Fr B0 [] w wr ∧ (j = 0 → Below w.heap.size w wr)

set_option maxRecDepth 100000 in
set_option maxHeartbeats 2000000 in
theorem deletes_any : DelC := by
  intro i t v es w h hv h0 hn hL G hG
  obtain ⟨a, n, cap, rfl, hl, hc, hm, hr⟩ := hv
  rw [ents_len] at hl
  obtain ⟨b, off, rfl, hcell⟩ := hr (by omega)
  have HC := Lib.hid hcell
  have HN := Lib.hid hl
  have HT := Lib.hid h
  have HNB : Hid (1 < n → b ∉ t.blocks) := Lib.hid (fun h1 hb => by
    obtain ⟨_, _, _, _, _, hnd⟩ := at_nd h.sub hb
    have k0 := hcell 0 _ (ents_at es 0 (by omega))
    have k1 := hcell 1 _ (ents_at es 1 (by omega))
    exact nd_two hnd k0 k1)
  rw [hl] at hn h0 ⊢
  obtain ⟨L0, hL0⟩ : ∃ L, t.toL = L := ⟨_, rfl⟩
  rw [hL0] at hL ⊢
  have HL0 := Lib.hid hL0
  have t0 : ((n : Int) == 0) = false := by rw [beq_eq_false_iff_ne]; omega
  have hself : w.heap.size ≤ w.heap.size := Nat.le_refl _
  have HGB := Lib.hid hG
  clear hcell hl hc hm hr h hL0 hG
  go_enter Try.func28, Try.ntmps28
  go_wp2_with (at_make; refine wpList_make2 rfl _ _ 71 rfl w.heap.size 92 Value.nilIface 16 Try.underlying71 info_entry rfl _ _ _ _ 0 n rfl rfl rfl rfl (Nat.zero_le _) (by omega) (by unfold maxLen; omega) hself ?_; intro w1 hown1 hb1 hs1; have HOW1 := Lib.hid hown1; have HB1 := Lib.hid hb1; have hs1' := HB1.out.size; clear hown1 hb1 hs1)
  refine (copyimm_any i t w1 (HT.out.below HB1.out)).mono ?_
  rintro e w2 ⟨i', t', rfl, ht2, htl, hi2, hb2, hbe2, hbl2⟩
  rw [HL0.out] at htl
  have HT2 := Lib.hid ht2
  have HTL := Lib.hid htl
  have HBL := Lib.hid (show ∀ b ∈ t'.blocks, b ∈ t.blocks ∨ w.heap.size ≤ b from fun b hb => by
    rcases hbl2 b hb with h1 | h1
    · exact .inl h1
    · exact .inr (Nat.le_trans hs1' h1))
  have HO2 := Lib.hid (show w2.ownsRow w.heap.size 92 1 _ 0 _ from by
    have h1 := HOW1.out
    refine ⟨h1.1, ?_⟩
    rcases h1.2 with h0 | ⟨g, cap, cur, e, hbg, hg, r⟩
    · exact .inl h0
    · exact .inr ⟨g, cap, cur, e, hbg, (hbe2.block g (Array.getElem?_eq_some_iff.1 hg).1).trans hg, r⟩)
  have HB2 : Hid (Fr t.blocks [] w w2) := Lib.hid (rem_of0 (rem_refl0 _ _) (Fr.of_below [] (HB1.out.trans (hbe2.mono hs1'))) (fun _ h => by cases h))
  have HB3 := Lib.hid (HB1.out.trans (hbe2.mono hs1'))
  have hi3 : w.heap.size ≤ i' := by omega
  clear ht2 htl hb2 hbe2 hbl2 HOW1 HB1 HT
  go_wp2_with fail
  go_loopg [6, 9, 22] n (fun k s6 s9 idx wr => DelLoop L0 es t.blocks i' n w k s6 idx wr)
  case atStart => exact ⟨0, t', _, _, rfl, rfl, by omega, HT2.out, by simp [delAll, HTL.out], HBL.out, HO2.out, HB2.out, fun _ => HB3.out⟩
  case round =>
    clear HT2 HTL HBL HO2 HB2 HB3
    obtain ⟨j, t1, q, c, rfl, rfl, hjk, htr, htl, hbl, hown, hbel, hb0⟩ := hrel
    have HTR := Lib.hid htr
    have HTL := Lib.hid htl
    have HBL := Lib.hid hbl
    have HO := Lib.hid hown
    have HB := Lib.hid hbel
    have hsz := hbel.size
    by_cases hj : j < n
    · have hce : wr.cell? ⟨b, off + j, none⟩ = some (.iface 99 (.agg #[.int .i64 (es.getD j (0, 0)).1, .int .i64 (es.getD j (0, 0)).2])) := by
        rcases Nat.lt_or_ge 1 n with h1 | h1
        · exact hbel.cell (HC.out j _ (ents_at es j (by rw [HN.out]; exact hj))) (HNB.out h1)
        · have hk := HC.out j _ (ents_at es j (by rw [HN.out]; exact hj))
          exact ((hb0 (by omega)).cell (World.block_lt_of_cell? w _ hk)).trans hk
      have hlen : t1.toL.length ≤ 200000 := by
        rw [htl]
        have := delAll_len (es.take j) L0
        omega
      have hsu := delAll_succ L0 es j (by rw [HN.out]; exact hj)
      have hou : delI L0 es j = ovv (es.getD j (0, 0)).1 (look t1.toL (es.getD j (0, 0)).1) := by unfold delI; rw [htl]
      obtain ⟨k0, hk0⟩ : ∃ x, (es.getD j (0, 0)).1 = x := ⟨_, rfl⟩
      obtain ⟨v0, hv0⟩ : ∃ x, (es.getD j (0, 0)).2 = x := ⟨_, rfl⟩
      rw [hk0, hv0] at hce
      rw [hk0] at hou hsu
      have hin := delete_any i' t1 k0 v0 wr htr hlen
      have HIN := Lib.hid hin
      have HSU := Lib.hid hsu
      have HOU := Lib.hid hou
      have i1 : (j : Int) < (n : Int) := by omega
      have i2 : (0 : Int) ≤ (j : Int) := by omega
      clear htr htl hbl hown hbel hb0 hlen hsu hou hk0 hv0 hin
      cases gk with
      | zero => omega
      | succ k =>
        go_wp2_with fail
        refine HIN.out.mono ?_
        rintro e w3 ⟨t2, rfl, ht2, htl2, hf2, hbl2⟩
        have hb3 : Fr t.blocks [] w w3 := rem_of0 HB.out hf2 (fun x hx => by
          rcases List.mem_cons.1 hx with rfl | hx
          · exact .inr hi3
          · exact HBL.out x hx)
        have ho3 := hf2.own HO.out (tr_own2 HTR.out HO.out (by decide) (by decide))
        have hr3 : ∀ b ∈ t2.blocks, b ∈ t.blocks ∨ w.heap.size ≤ b := fun b hb => by
          rcases hbl2 b hb with h1 | h1
          · exact HBL.out b h1
          · exact .inr (Nat.le_trans hsz h1)
        have HT3 := Lib.hid ht2
        have HL3 : Hid (t2.toL = delAll L0 (es.take (j + 1))) := Lib.hid (by rw [htl2, HSU.out, HTL.out])
        have HB3 := Lib.hid hb3
        have HO3 := Lib.hid ho3
        have HR3 := Lib.hid hr3
        have hs3 := hb3.size
        have HOUT := HOU.out
        clear ht2 htl2 hf2 hb3 ho3 hr3 hbl2 HOU
        cases hlk : look t1.toL k0 with
        | none =>
          rw [hlk] at HOUT
          have HOU := Lib.hid HOUT
          clear HOUT hlk
          rw [show ovv k0 none = Value.nilIface from rfl]
          go_wp2_with (at_builtin; refine wpList_append1 rfl _ _ 71 rfl w.heap.size 92 Value.nilIface 16 Try.underlying71 info_entry rfl (.slice q j c) j _ rfl HO3.out Value.nilIface rfl rfl (by unfold maxLen; omega) (by omega) (by omega) ?_; intro g5 k5 w5 hown5 hg5 hb5; have HO5 := Lib.hid hown5; have HB5 := Lib.hid (rem_of0 HB3.out (Fr.of_grown (v' := .slice q j c) hg5 (fun k hk => .inl hk)) (fun x hx => .inr (own_lt HO3.out x hx).2)); have HT5 := Lib.hid (HT3.out.row HO3.out (by decide) (by decide) (Fr.of_grown (v' := .slice q j c) hg5 (fun k hk => .inl hk))); clear hown5 hg5 hb5)
          go_roundg k
          case measure => omega
          case rel => exact ⟨j + 1, t2, _, k5, rfl, by go_num, by omega, HT5.out, HL3.out, HR3.out, by rw [range_snoc, HOU.out]; exact HO5.out, HB5.out, fun h => absurd h (by omega)⟩
        | some y =>
          rw [hlk] at HOUT
          have HOU := Lib.hid HOUT
          clear HOUT hlk
          rw [show ovv k0 (some y) = .iface 99 (.agg #[.int .i64 k0, .int .i64 y]) from rfl]
          go_wp2_with (at_builtin; refine wpList_append1 rfl _ _ 71 rfl w.heap.size 92 Value.nilIface 16 Try.underlying71 info_entry rfl (.slice q j c) j _ rfl HO3.out (.iface 99 (.agg #[.int .i64 k0, .int .i64 y])) rfl rfl (by unfold maxLen; omega) (by omega) (by omega) ?_; intro g5 k5 w5 hown5 hg5 hb5; have HO5 := Lib.hid hown5; have HB5 := Lib.hid (rem_of0 HB3.out (Fr.of_grown (v' := .slice q j c) hg5 (fun k hk => .inl hk)) (fun x hx => .inr (own_lt HO3.out x hx).2)); have HT5 := Lib.hid (HT3.out.row HO3.out (by decide) (by decide) (Fr.of_grown (v' := .slice q j c) hg5 (fun k hk => .inl hk))); clear hown5 hg5 hb5)
          go_roundg k
          case measure => omega
          case rel => exact ⟨j + 1, t2, _, k5, rfl, by go_num, by omega, HT5.out, HL3.out, HR3.out, by rw [range_snoc, HOU.out]; exact HO5.out, HB5.out, fun h => absurd h (by omega)⟩
    · obtain rfl : j = n := by omega
      rw [List.take_of_length_le (by rw [HN.out]; exact Nat.le_refl _)] at htl
      have HTL := Lib.hid htl
      clear htr htl hbl hown hbel hb0
      go_wp2_with fail
      go_ret2
      refine ⟨i', t1, q, c, [], rfl, HTR.out, HTL.out, HO.out, HB.out, fun b hb => ?_⟩
      rcases HBL.out b hb with h1 | h1
      · exact HGB.out.2 b h1
      · have := HGB.out.1; omega
end Go.Proofs.Ytidekgmpbcnfmaa
