/- Walks of package queue: push. -/
import Derived.Test.YtepjailijekepaaDoorPqBase
import Derived.Maps.AppendAt
namespace Go.Proofs.YtepjailijekepaaDoor
set_option linter.unusedVariables false
open Go.RowKit
open Pqm

theorem info_qitem : (Tryd.prog.info? 64).map (fun i => (i.zero, i.size, i.bytes)) = some (some .nilIface, 1, 16) := by kernel_rfl
def obk (p : Option Addr) : Option Nat := p.map (·.block)
theorem own_obk {w : World} {b m : Nat} {p : Option Addr} {c : Nat} {h : List It} {gone dup : Bool} (H : Pq w b m p c h gone dup) : (Value.slice p h.length c).ownBlock = obk p := by
  rcases pq_g H with ⟨rfl, _⟩ | ⟨g, rfl, _⟩ <;> rfl
/-- the method of an element (the number: the program's types and 100) -/
theorem meth_cmp (x : Value) (w : World) : (method 197 55 x "Compare").run Tryd.prog w = .ok (45, x) w := by kernel_rfl
theorem row_blkp {w : World} {B : Nat} {e : TypeId} {size : Nat} {v : Value} {n : Nat} {xs : List Value} (h : w.ownsRow B e size v n xs) {s : Nat} {t : TypeId} {cs : Array Value} (hs : Blk w s t cs) (he : e ≠ t) : v.ownBlock ≠ some s := by
  rcases h.2 with ⟨rfl, _⟩ | ⟨g, cap, cur, rfl, hbg, hg, _⟩
  · simp [Value.ownBlock]
  · intro e2
    simp [Value.ownBlock] at e2
    subst e2
    unfold Blk at hs
    rw [hs] at hg
    simp at hg
    exact he hg.2.symm
theorem pq_nb {w : World} {b m : Nat} {p : Option Addr} {c : Nat} {h : List It} {gone dup : Bool} (H : Pq w b m p c h gone dup) : (Value.slice p h.length c).ownBlock ≠ some b := row_blkp H.own H.blk (by decide)

/-- append(v, u) as wpList_append1, and where the row lies: where it was, or in a new block -/
theorem wpList_append1_at {P : Program} {w : World} {ops : Array Oper} {rest : List Oper} {o : Oper} {a : Act} {Q : Exit → Act → World → Prop} (hgd : o.guard = none) (s x : Operand) (t : TypeId)
    (ho : o.op = .call { callee := .builtin .append, args := #[s, x], argTypes := #[t, t] })
    (base : Nat) (e : TypeId) (z : Value) (bytes : Nat) (ht : P.underlying t = some (.slice e)) (hi : (P.info? e).map (fun i => (i.zero, i.size, i.bytes)) = some (some z, 1, bytes)) (hz : z.cells = #[z])
    (v : Value) (n : Nat) (xs : List Value) (hs : a.eval s = v) (hown : w.ownsRow base e 1 v n xs)
    (u : Value) (hx : a.eval x = .slice (some ⟨w.heap.size, 0, none⟩) 1 1) (h1 : u.oneCell' = true)
    (h63 : n + 1 ≤ maxLen) (hbytes : (n + 1) * bytes ≤ 140737488355328) (hbase : base ≤ w.heap.size)
    (h : ∀ g cap w', w'.ownsRow base e 1 (.slice (some ⟨g, 0, none⟩) (n + 1) cap) (n + 1) (xs ++ [u]) → w.grownBy w' v.ownBlock → Below base w w' → (v.ownBlock = some g ∨ w.heap.size ≤ g) → wpList P ops Q rest (a.put o.dst (.slice (some ⟨g, 0, none⟩) (n + 1) cap)) w') :
    wpList P ops Q (o :: rest) a (w.alloc (.cells #[u] e)) := by
  obtain ⟨i, h2, h3, h4, h5⟩ := info_parts hi
  have hw : (w.alloc (.cells #[u] e)).heap.size = w.heap.size + 1 := by simp
  refine wpList_append_own_at _ hgd s x t ho base e i z 1 bytes ht h2 h3 h4 h5 (by rw [hz]; rfl) (by omega) v n xs hs (hown.alloc _) ⟨w.heap.size, 0, none⟩ 1 1 [u] hx rfl (cell_one_new _ _ _) (by simpa using h1) h63 hbytes (by omega) fun v' w' hown' hgr hnil hat => ?_
  have hg2 : w.grownBy w' v.ownBlock := ⟨hgr.os, hgr.tape, hgr.output, by have := hgr.size; omega, fun k hk hne => (hgr.block k (by omega) hne).trans (Below.heap_alloc w _ k hk)⟩
  have hv' : ∃ g cap, v' = .slice (some ⟨g, 0, none⟩) (n + 1) cap := by
    rcases hown'.2 with ⟨e, _⟩ | ⟨g, cap, cur, e, _⟩
    · have := (hnil.1 e).2; omega
    · exact ⟨g, cap, e⟩
  obtain ⟨g, cap, rfl⟩ := hv'
  refine h g cap w' hown' hg2 ((Below.refl _ _).grown hg2 hbase fun k hk => (hown.lt k hk).1) ?_
  rcases hat with h | h
  · exact .inl h.symm
  · simp [Value.ownBlock] at h
    exact .inr (by omega)

def PushLoop (n b m g c : Nat) (h : List It) (x : It) (gone dup : Bool) (w1 : World) (k : Nat) (idx pr : Value) (wr : World) : Prop :=
  ∃ (i : Nat) (hs : List It), idx = .int .i64 (i : Int) ∧ pr = .int .i64 ((par i : Nat) : Int) ∧ i ≤ k ∧ i < hs.length ∧ hs.length = n ∧ Up hs i ∧ hs.Perm (h ++ [x]) ∧ hs.getD i dI = x ∧ Pq wr b m (some ⟨g, 0, none⟩) c hs gone dup ∧ PqFr b b (some g) (some g) w1 wr

theorem par_start (n : Nat) : Value.int .i64 (((n : Int) - 1).tdiv 2) = .int .i64 ((par n : Nat) : Int) := by
  have : ((n : Int) - 1).tdiv 2 = ((par n : Nat) : Int) := by
    unfold par
    cases n with
    | zero => rfl
    | succ n =>
      have e : (((n + 1 : Nat) : Int) - 1) = (n : Int) := by omega
      rw [e, Int.tdiv_eq_ediv_of_nonneg (by omega)]
      omega
  rw [this]

set_option maxRecDepth 100000 in
set_option maxHeartbeats 1000000 in
theorem push_any (b m : Nat) (p : Option Addr) (c : Nat) (L : List It) (gone dup : Bool) (x : It) (w : World) (H : Pq w b m p c L gone dup) (hh : Heap L) (h9 : L.length ≤ 100000) :
    Calls Tryd.prog 25 #[.pointer (some ⟨b, 0, none⟩), itv x] w fun e w' => e = .returned (.tuple #[]) ∧
      ∃ p' c' h', Pq w' b m p' c' h' gone dup ∧ Heap h' ∧ h'.Perm (L ++ [x]) ∧ PqFr b b (obk p) (obk p') w w' := by
  obtain ⟨x1, x2⟩ := x
  show Calls Tryd.prog 25 #[.pointer (some ⟨b, 0, none⟩), .iface 55 (.agg #[.int .i64 x1, .int .i64 x2])] w _
  have h0 : w.cell? ⟨b, 0, none⟩ = some (.slice p L.length c) := H.blk.cell 0 rfl
  have HH := Lib.hid H
  have HHP := Lib.hid hh
  have hmx : L.length + 1 ≤ maxLen := by unfold maxLen; omega
  clear H hh
  go_enter Tryd.func25, Tryd.ntmps25
  go_wp2_with (at_builtin; refine wpList_append1_at rfl _ _ 50 rfl 0 64 .nilIface 16 Tryd.underlying50 info_qitem rfl (.slice p L.length c) L.length (itvs L) rfl HH.out.own (.iface 55 (.agg #[.int .i64 x1, .int .i64 x2])) rfl rfl hmx (by omega) (Nat.zero_le _) ?_; intro g1 cap1 w1 hown1 hg1 hb1 hat1; have HAT := Lib.hid hat1; clear hat1; have hgb := (row_blkp hown1 (HH.out.blk.grown hg1 (pq_nb HH.out)) (by decide) : some g1 ≠ some b); have HB1 := Lib.hid (HH.out.blk.grown hg1 (pq_nb HH.out)); have c0 := HB1.out.cell 0 rfl; have f0 := HB1.out.free 0; have HG1 := Lib.hid hg1; have HOW := Lib.hid hown1; have HBL := Lib.hid hb1; have HGB := Lib.hid hgb; clear hgb hg1 hown1 hb1 h0)
  go_loopg [4, 5] L.length (fun k idx pr wr => PushLoop (L.length + 1) b m g1 cap1 L (x1, x2) gone dup (w1.setCell ⟨b, 0, none⟩ (.slice (some ⟨g1, 0, none⟩) (L.length + 1) cap1)) k idx pr wr)
  case atStart =>
    refine ⟨L.length, L ++ [(x1, x2)], rfl, par_start _, Nat.le_refl _, by simp, by simp, push_start HHP.out _, List.Perm.refl _, by simp, ⟨?_, ?_⟩, PqFr.refl _ _ _ _⟩
    · simpa using HB1.out.set 0 (.slice (some ⟨g1, 0, none⟩) (L.length + 1) cap1)
    · simp only [List.length_append, List.length_cons, List.length_nil]
      have : (w1.setCell ⟨b, 0, none⟩ (.slice (some ⟨g1, 0, none⟩) (L.length + 1) cap1)).ownsRow 0 64 1 (.slice (some ⟨g1, 0, none⟩) (L.length + 1) cap1) (L.length + 1) (itvs L ++ [itv (x1, x2)]) := ownsRow_setCell_other HOW.out (a := ⟨b, 0, none⟩) HGB.out _
      rw [itvs_app]
      exact this
  case round =>
    obtain ⟨i, hs, rfl, rfl, hik, hil, hlen, hup, hperm, hx, hpq, hfr⟩ := hrel
    have e0 : wr.cell? ⟨b, 0, none⟩ = some (.slice (some ⟨g1, 0, none⟩) hs.length cap1) := hpq.blk.cell 0 rfl
    have hpl : par i < hs.length := by unfold par; omega
    have e1 := hpq.cell (par i) hpl
    obtain ⟨⟨y1, y2⟩, hY⟩ : ∃ Y, hs.getD (par i) dI = Y := ⟨_, rfl⟩
    rw [hY] at e1
    have e1' : wr.cell? ⟨g1, par i, none⟩ = some (.iface 55 (.agg #[.int .i64 y1, .int .i64 y2])) := e1
    have hcmp := cmp_any (y1, y2) (x1, x2) wr
    have HC := Lib.hid hcmp
    have HX := Lib.hid hx
    have HY := Lib.hid hY
    have HU := Lib.hid hup
    have HP := Lib.hid hperm
    have HQ := Lib.hid hpq
    have HF := Lib.hid hfr
    have hs9 : hs.length ≤ 100001 := by omega
    have HLN := Lib.hid hlen
    have hinv := meth_cmp
    clear hcmp hx hY hup hperm hpq hfr hlen c0 f0 e1 h9 hmx
    by_cases hlt : x1 < y1
    · have HC2 : Hid (Calls Tryd.prog 45 #[.agg #[.int .i64 y1, .int .i64 y2], .iface 55 (.agg #[.int .i64 x1, .int .i64 x2])] wr fun e w' => e = .returned (.int .i64 1) ∧ Below wr.heap.size wr w') := Lib.hid (by
        have := HC.out
        unfold ordI at this
        rw [if_neg (by simp; omega), if_pos (by simpa using hlt)] at this
        exact this)
      have h0i : 0 < i := by
        rcases Nat.eq_zero_or_pos i with e | e
        · subst e
          have h1 := HX.out
          have h2 : hs.getD 0 dI = (y1, y2) := HY.out
          rw [h1] at h2
          injection h2 with h2 h3
          omega
        · exact e
      have HLT := Lib.hid hlt
      clear hlt HC
      go_wp2_with fail
      refine HC2.out.mono ?_
      rintro e wc ⟨rfl, hbc⟩
      have HQ2 := Lib.hid (HQ.out.below hbc)
      have HF2 := Lib.hid (HF.out.trans (PqFr.of_below hbc))
      clear hbc e0 e1'
      go_wp2_with fail
      refine (swap_any b m g1 cap1 hs gone dup i (par i) wc HQ2.out hil hpl).mono ?_
      rintro e wd ⟨rfl, hpq3, hfr3⟩
      have HQ3 := Lib.hid hpq3
      have HF3 := Lib.hid (HF2.out.trans hfr3)
      clear hpq3 hfr3
      go_wp2_with fail
      cases gk with
      | zero => omega
      | succ gk =>
        go_roundg gk
        case measure => omega
        case rel =>
          have hk1 : key hs i = x1 := by unfold key; rw [HX.out]
          have hk2 : key hs (par i) = y1 := by unfold key; rw [HY.out]
          have hlt := HLT.out
          have hp := par_lt h0i
          refine ⟨par i, swp hs i (par i), rfl, par_start _, by omega, by rw [swp_len]; exact hpl, by rw [swp_len]; exact HLN.out, up_step HU.out h0i hil (by omega), (swp_perm hs i (par i) hil hpl).trans HP.out, ?_, HQ3.out, HF3.out⟩
          rw [swp_at hs i (par i) (par i) hil hpl, if_pos rfl]
          exact HX.out
    · have hcase : ordI y1 x1 = -1 ∨ ordI y1 x1 = 0 := by
        unfold ordI
        by_cases h2 : y1 < x1
        · rw [if_pos h2]; exact .inl rfl
        · rw [if_neg h2, if_neg (by omega)]; exact .inr rfl
      have HLT := Lib.hid hlt
      clear hlt
      rcases hcase with hO | hO
      all_goals
        have HC2 := HC.out
        simp only [hO] at HC2
        have HC3 := Lib.hid HC2
        clear HC2 HC hO
        go_wp2_with fail
        refine HC3.out.mono ?_
        rintro e wc ⟨rfl, hbc⟩
        have HQ2 := Lib.hid (HQ.out.below hbc)
        have HF2 := Lib.hid (HF.out.trans (PqFr.of_below hbc))
        clear hbc e0 e1'
        go_wp2_with fail
        go_end0
        have hk1 : key hs i = x1 := by unfold key; rw [HX.out]
        have hk2 : key hs (par i) = y1 := by unfold key; rw [HY.out]
        have hlt := HLT.out
        refine ⟨rfl, some ⟨g1, 0, none⟩, cap1, hs, HQ2.out, up_end HU.out (by omega), HP.out, ?_⟩
        have f1 : PqFr b b (obk p) (some g1) w w1 := by
          rw [← own_obk HH.out]
          exact PqFr.of_grown HG1.out (fun k e => by injection e with e; rw [← e]; exact HAT.out)
        exact (f1.trans (PqFr.store b b _ w1 (a := ⟨b, 0, none⟩) (.inl rfl) _)).trans HF2.out
end Go.Proofs.YtepjailijekepaaDoor
