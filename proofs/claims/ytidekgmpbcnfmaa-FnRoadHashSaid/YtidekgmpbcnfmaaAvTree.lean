/- A whole AVL tree: its list, insertion and look-up of one entry, and the copy of its head. -/
import Derived.Test.YtidekgmpbcnfmaaAvIns
namespace Go.Proofs.Ytidekgmpbcnfmaa
set_option linter.unusedVariables false
open Go.RowKit Avm

def look (l : List (Int × Int)) (k : Int) : Option Int := (l.find? fun x => x.1 == k).map (·.2)
def insS (l : List (Int × Int)) (k v : Int) : List (Int × Int) := l.filter (fun x => decide (x.1 < k)) ++ (k, v) :: l.filter (fun x => decide (k < x.1))

theorem look_none {l : List (Int × Int)} {k : Int} (h : ∀ x ∈ l, x.1 ≠ k) : look l k = none := by
  unfold look
  rw [List.find?_eq_none.2 (fun x hx => by simpa using h x hx)]; rfl
theorem look_mid {ls rs : List (Int × Int)} {k v : Int} (h : ∀ x ∈ ls, x.1 ≠ k) : look (ls ++ (k, v) :: rs) k = some v := by
  unfold look
  rw [List.find?_append, List.find?_eq_none.2 (fun x hx => by simpa using h x hx)]
  simp
theorem filter_lt {ls rs : List (Int × Int)} {k : Int} (h1 : ∀ x ∈ ls, x.1 < k) (h2 : ∀ x ∈ rs, k < x.1) : (ls ++ rs).filter (fun x => decide (x.1 < k)) = ls := by
  rw [List.filter_append, List.filter_eq_self.2 (fun x hx => by simpa using h1 x hx), List.filter_eq_nil_iff.2 (fun x hx => by have := h2 x hx; simp; omega), List.append_nil]
theorem filter_gt {ls rs : List (Int × Int)} {k : Int} (h1 : ∀ x ∈ ls, x.1 < k) (h2 : ∀ x ∈ rs, k < x.1) : (ls ++ rs).filter (fun x => decide (k < x.1)) = rs := by
  rw [List.filter_append, List.filter_eq_nil_iff.2 (fun x hx => by have := h1 x hx; simp; omega), List.filter_eq_self.2 (fun x hx => by simpa using h2 x hx), List.nil_append]
theorem Put.eq {k v : Int} {l l' : List (Int × Int)} {o : Option Int} (h : Put k v l l' o) : l' = insS l k v ∧ o = look l k := by
  obtain ⟨ls, rs, rfl, h1, h2, h3⟩ := h
  rcases h3 with ⟨rfl, rfl⟩ | ⟨v0, rfl, rfl⟩
  · refine ⟨by rw [insS, filter_lt h1 h2, filter_gt h1 h2], (look_none fun x hx => ?_).symm⟩
    rcases List.mem_append.1 hx with hx | hx
    · have := h1 x hx; omega
    · have := h2 x hx; omega
  · refine ⟨?_, (look_mid fun x hx => by have := h1 x hx; omega).symm⟩
    have e1 : (ls ++ (k, v0) :: rs).filter (fun x => decide (x.1 < k)) = ls := by
      rw [List.filter_append, List.filter_eq_self.2 (fun x hx => by simpa using h1 x hx), List.filter_eq_nil_iff.2 (fun x hx => ?_), List.append_nil]
      rcases List.mem_cons.1 hx with rfl | hx
      · simp
      · have := h2 x hx; simp; omega
    have e2 : (ls ++ (k, v0) :: rs).filter (fun x => decide (k < x.1)) = rs := by
      rw [List.filter_append, List.filter_eq_nil_iff.2 (fun x hx => by have := h1 x hx; simp; omega), List.nil_append, List.filter_cons, if_neg (by simp), List.filter_eq_self.2 (fun x hx => by simpa using h2 x hx)]
    rw [insS, e1, e2]
theorem insS_srt {l : List (Int × Int)} (h : Srt l) (k v : Int) : Srt (insS l k v) := by
  unfold insS
  refine List.pairwise_append.2 ⟨List.Pairwise.filter _ h, List.pairwise_cons.2 ⟨fun x hx => ?_, List.Pairwise.filter _ h⟩, fun a ha b hb => ?_⟩
  · have := (List.mem_filter.1 hx).2; simpa using this
  · have h1 := (List.mem_filter.1 ha).2
    simp only [decide_eq_true_eq] at h1
    rcases List.mem_cons.1 hb with rfl | hb
    · exact h1
    · have h2 := (List.mem_filter.1 hb).2
      simp only [decide_eq_true_eq] at h2
      omega
theorem insS_len (l : List (Int × Int)) (k v : Int) : (insS l k v).length ≤ l.length + 1 := by
  have h : ∀ l : List (Int × Int), (l.filter (fun x => decide (x.1 < k))).length + (l.filter (fun x => decide (k < x.1))).length ≤ l.length := by
    intro l
    induction l with
    | nil => simp
    | cons a l ih =>
      simp only [List.filter_cons]
      by_cases h1 : a.1 < k
      · have h2 : ¬ k < a.1 := by omega
        simp [h1, h2]; omega
      · by_cases h2 : k < a.1
        · simp [h1, h2]; omega
        · simp [h1, h2]; omega
  unfold insS
  have := h l
  simp only [List.length_append, List.length_cons]
  omega

structure Tr (w : World) (i : Nat) (t : T) : Prop where
  head : Hd w i (ptr t) t.toL.length
  sub : At w t
  nd : t.blocks.Nodup
  v : V t
  srt : Srt t.toL
theorem Hd.fr {w w' : World} {F F' : List Nat} {i n : Nat} {r : Option Addr} (h : Hd w i r n) (hf : Fr F F' w w') (hi : i ∉ F) : Hd w' i r n := by
  obtain ⟨a, b, c, h⟩ := h
  exact ⟨a, b, c, hf.blk h hi⟩
theorem Tr.fr {w w' : World} {F F' : List Nat} {i : Nat} {t : T} (h : Tr w i t) (hf : Fr F F' w w') (hi : i ∉ F) (ht : ∀ b ∈ t.blocks, b ∉ F) : Tr w' i t :=
  ⟨h.head.fr hf hi, h.sub.fr hf ht, h.nd, h.v, h.srt⟩
theorem Tr.below {w w' : World} {i : Nat} {t : T} (h : Tr w i t) (hb : Below w.heap.size w w') : Tr w' i t := h.fr (Fr.of_below [] hb) (fun h => by cases h) (fun _ _ h => by cases h)
theorem Tr.lt {w : World} {i : Nat} {t : T} (h : Tr w i t) : i < w.heap.size := by
  obtain ⟨a, b, c, h⟩ := h.head
  exact h.lt
theorem Tr.row {w w' : World} {i : Nat} {t : T} {B : Nat} {e : TypeId} {size : Nat} {u u' : Value} {n : Nat} {xs : List Value} (h : Tr w i t) (ho : w.ownsRow B e size u n xs) (h1 : e ≠ 96) (h2 : e ≠ 94) (hf : Fr (obl u) (obl u') w w') : Tr w' i t := by
  refine h.fr hf (fun hm => ?_) fun b hb hm => ?_
  · obtain ⟨a, b, c, hh⟩ := h.head
    exact row_blk ho hh h1 (mem_obl.1 hm)
  · obtain ⟨cs, hk⟩ := at_blk h.sub hb
    exact row_blk ho hk h2 (mem_obl.1 hm)

theorem insert_any (i : Nat) (t : T) (k v : Int) (w : World) (h : Tr w i t) (hn : t.toL.length < 9223372036854775807) (G : Nat) (hG : G ≤ w.heap.size ∧ ∀ b ∈ t.blocks, G ≤ b) :
    Calls Try.prog 40 #[.pointer (some ⟨i, 0, none⟩), .iface 99 (.agg #[.int .i64 k, .int .i64 v])] w fun e w' => e = .returned (ovv k (look t.toL k)) ∧ ∃ t', Tr w' i t' ∧ t'.toL = insS t.toL k v ∧ Fr (i :: rb t) (i :: rb t') w w' ∧ ∀ b ∈ t'.blocks, G ≤ b := by
  cases t with
  | nil =>
    refine (insert_nil i 0 k v w h.head (by omega)).mono ?_
    rintro e w' ⟨rfl, h1, h2, h3⟩
    refine ⟨rfl, .nd w.heap.size 0 .nil k v .nil, ⟨h1, ⟨h2, trivial, trivial⟩, by simp [T.blocks], ⟨rfl, by omega, by omega, trivial, trivial⟩, by simp [T.toL, Srt]⟩, by simp [T.toL, insS], ⟨h3.os, h3.tape, h3.output, h3.size, fun j hj hn => h3.block j hj (by simpa [rb] using hn), fun j hj => ?_⟩, fun b hb => by simp [T.blocks] at hb; rw [hb]; exact hG.1⟩
    rcases List.mem_cons.1 hj with rfl | hj
    · left; simp
    · right; rw [List.mem_singleton.1 hj]; exact Nat.le_refl _
  | nd b0 bal0 l0 k0 v0 r0 =>
    refine (insert_nd i _ b0 bal0 l0 k0 v0 r0 k v w h.head h.sub h.nd h.v h.srt rfl hn G hG).mono ?_
    rintro e w' ⟨t', o, rfl, h1, h2, h3, h4, h5, h6, h7⟩
    obtain ⟨e1, e2⟩ := h5.eq
    exact ⟨by rw [e2], t', ⟨h1, h2, h3, h4, by rw [e1]; exact insS_srt h.srt k v⟩, e1, h6, h7⟩

def GetRel (k : Int) (L : List (Int × Int)) (w : World) (kk : Nat) (p : Value) (wr : World) : Prop :=
  ∃ (t1 : T) (ls rs : List (Int × Int)), p = .pointer (ptr t1) ∧ L = ls ++ t1.toL ++ rs ∧ (∀ x ∈ ls, x.1 < k) ∧ (∀ x ∈ rs, k < x.1) ∧ At wr t1 ∧ t1.h ≤ kk ∧ Below w.heap.size w wr

set_option maxRecDepth 100000 in
set_option maxHeartbeats 1000000 in
theorem get_any (i : Nat) (t : T) (k v : Int) (w : World) (h : Tr w i t) :
    Calls Try.prog 42 #[.pointer (some ⟨i, 0, none⟩), .iface 99 (.agg #[.int .i64 k, .int .i64 v])] w fun e w' => e = .returned (ovv k (look t.toL k)) ∧ Below w.heap.size w w' := by
  obtain ⟨db, dl, dr, hh⟩ := h.head
  have c0 := Blk.cell hh 0 rfl
  have HT := Lib.hid h
  obtain ⟨L, hL⟩ : ∃ L, t.toL = L := ⟨_, rfl⟩
  have HL := Lib.hid hL
  rw [hL]
  obtain ⟨H0, hH0⟩ : ∃ H0, t.h = H0 := ⟨_, rfl⟩
  have HH0 := Lib.hid hH0
  have hs : Hid (Srt L) := Lib.hid (by rw [← hL]; exact h.srt)
  clear h hh hL hH0
  go_enter Try.func42, Try.ntmps42
  go_wp2_with fail
  go_loopg [5, 6] H0 (fun kk s5 s6 wr => GetRel k L w kk s5 wr)
  case atStart => exact ⟨t, [], [], rfl, by simp [HL.out], by simp, by simp, HT.out.sub, by rw [HH0.out]; exact Nat.le_refl _, Below.refl _ _⟩
  case round =>
    clear HT HL HH0 c0
    obtain ⟨t1, ls, rs, rfl, hLL, hl, hr, hat, hkk, hbel⟩ := hrel
    have HLL := Lib.hid hLL
    have HLS := Lib.hid hl
    have HRS := Lib.hid hr
    have HBE := Lib.hid hbel
    clear hLL hl hr hbel
    cases t1 with
    | nil =>
      rw [show ptr T.nil = none from rfl]
      clear hat
      go_wp2_with fail
      go_ret
      refine ⟨?_, HBE.out⟩
      have : look L k = none := look_none fun x hx => by
        rw [HLL.out] at hx
        simp only [T.toL, List.append_nil] at hx
        rcases List.mem_append.1 hx with hx | hx
        · have := HLS.out x hx; omega
        · have := HRS.out x hx; omega
      rw [this]; rfl
    | nd b bal l pk pv r =>
      rw [show ptr (T.nd b bal l pk pv r) = some ⟨b, 0, none⟩ from rfl]
      have n0 := hat.1
      have c3 := Blk.cell n0 3 rfl
      have hm := meth_cmp
      have HAT := Lib.hid hat
      clear n0 hat
      go_wp2_with fail
      refine (compare_any pk pv k v _).mono ?_
      rintro e wc ⟨rfl, hbc⟩
      have HA2 := Lib.hid (HAT.out.below hbc)
      have HB2 := Lib.hid (HBE.out.trans (hbc.mono HBE.out.size))
      have n0 := HA2.out.1
      have c1 := Blk.cell n0 1 rfl
      have c2 := Blk.cell n0 2 rfl
      have c3 := Blk.cell n0 3 rfl
      have hsm : Srt (l.toL ++ (pk, pv) :: r.toL) := by
        have h3 := hs.out
        rw [HLL.out] at h3
        exact (List.pairwise_append.1 (List.pairwise_append.1 h3).1).2.1
      have HSM := Lib.hid hsm
      clear hbc hm HAT n0 hsm
      cases gk with
      | zero => simp [T.h] at hkk
      | succ kk =>
        by_cases hlt : k < pk
        · have hcm : cmp pk k = 1 := by unfold cmp; rw [if_neg (by omega), if_pos hlt]
          rw [hcm]
          have HLT := Lib.hid hlt
          clear hcm hlt c2 c3
          go_wp2_with fail
          go_roundg kk
          case measure => omega
          case rel =>
            refine ⟨l, ls, (pk, pv) :: r.toL ++ rs, rfl, by rw [HLL.out]; simp [T.toL], HLS.out, fun x hx => ?_, HA2.out.2.1, by simp only [T.h] at hkk; omega, HB2.out⟩
            rcases List.mem_append.1 hx with hx | hx
            · rcases List.mem_cons.1 hx with rfl | hx
              · exact HLT.out
              · have := (List.pairwise_cons.1 (List.pairwise_append.1 HSM.out).2.1).1 x hx
                have := HLT.out
                simp only [] at *
                omega
            · exact HRS.out x hx
        · by_cases hlt2 : pk < k
          · have hcm : cmp pk k = -1 := by unfold cmp; rw [if_pos hlt2]
            rw [hcm]
            have HLT := Lib.hid hlt2
            clear hcm hlt hlt2 c1 c3
            go_wp2_with fail
            go_roundg kk
            case measure => omega
            case rel =>
              refine ⟨r, ls ++ l.toL ++ [(pk, pv)], rs, rfl, by rw [HLL.out]; simp [T.toL], fun x hx => ?_, HRS.out, HA2.out.2.2, by simp only [T.h] at hkk; omega, HB2.out⟩
              rcases List.mem_append.1 hx with hx | hx
              · rcases List.mem_append.1 hx with hx | hx
                · exact HLS.out x hx
                · have := (List.pairwise_append.1 HSM.out).2.2 x hx (pk, pv) (by simp)
                  have := HLT.out
                  simp only [] at *
                  omega
              · rw [List.mem_singleton.1 hx]; exact HLT.out
          · obtain rfl : pk = k := by omega
            have hcm : cmp pk pk = 0 := by unfold cmp; rw [if_neg (by omega), if_neg (by omega)]
            rw [hcm]
            clear hcm hlt hlt2 c1 c2
            go_wp2_with fail
            go_ret
            refine ⟨?_, HB2.out⟩
            have e1 : L = (ls ++ l.toL) ++ (pk, pv) :: (r.toL ++ rs) := by rw [HLL.out]; simp [T.toL]
            have : look L pk = some pv := by
              rw [e1]
              refine look_mid fun x hx => ?_
              rcases List.mem_append.1 hx with hx | hx
              · have := HLS.out x hx; omega
              · have := (List.pairwise_append.1 HSM.out).2.2 x hx (pk, pv) (by simp)
                simp only [] at this
                omega
            rw [this]; rfl
end Go.Proofs.Ytidekgmpbcnfmaa
