/- Walks of package queue: a new queue, Put, Peek, Empty, Len, Dispose, Disposed; the errors. -/
import Derived.Test.YtepjailijekepaaDoorPqGet
import Derived.Test.YtepjailijekepaaDoorSent
namespace Go.Proofs.YtepjailijekepaaDoor
set_option linter.unusedVariables false
open Go.RowKit
open Pqm

set_option maxRecDepth 100000 in
theorem Empty_any (b m : Nat) (p : Option Addr) (c : Nat) (L ks : List It) (gone dup : Bool) (w : World) (H : Pqs w b m p c L ks gone dup) (h9 : L.length ≤ 100000) :
    Calls Tryd.prog 19 #[.pointer (some ⟨b, 0, none⟩)] w fun e w' => e = .returned (.bool (decide (L.length = 0))) ∧ w = w' := by
  obtain ⟨n, hn⟩ : ∃ n, L.length = n := ⟨_, rfl⟩
  have e0 := H.q.c0 hn
  rw [hn] at h9 ⊢
  clear hn H
  by_cases h : n = 0
  · subst h
    go_enter Tryd.func19, Tryd.ntmps19
    go_wp2_with fail
    go_ret
    exact ⟨rfl, rfl⟩
  · have hd : ((n : Int) == 0) = false := by simp; omega
    have hd2 : decide (n = 0) = false := by simpa using h
    rw [hd2]
    clear h hd2
    go_enter Tryd.func19, Tryd.ntmps19
    go_wp2_with fail
    go_ret
    exact ⟨rfl, rfl⟩
set_option maxRecDepth 100000 in
theorem Len_any (b m : Nat) (p : Option Addr) (c : Nat) (L ks : List It) (gone dup : Bool) (w : World) (H : Pqs w b m p c L ks gone dup) (h9 : L.length ≤ 100000) :
    Calls Tryd.prog 23 #[.pointer (some ⟨b, 0, none⟩)] w fun e w' => e = .returned (.int .i64 (L.length : Int)) ∧ w = w' := by
  obtain ⟨n, hn⟩ : ∃ n, L.length = n := ⟨_, rfl⟩
  have e0 := H.q.c0 hn
  rw [hn] at h9 ⊢
  clear hn H
  go_enter Tryd.func23, Tryd.ntmps23
  go_wp2_with fail
  go_ret
  exact ⟨rfl, rfl⟩
theorem Disposed_any (b m : Nat) (p : Option Addr) (c : Nat) (L ks : List It) (gone dup : Bool) (w : World) (H : Pqs w b m p c L ks gone dup) :
    Calls Tryd.prog 20 #[.pointer (some ⟨b, 0, none⟩)] w fun e w' => e = .returned (.bool gone) ∧ w = w' := by
  have e0 : w.cell? ⟨b, 2, none⟩ = some (.bool gone) := H.q.blk.cell 2 rfl
  clear H
  go_enter Tryd.func20, Tryd.ntmps20
  go_wp2_with fail
  go_ret
  exact ⟨rfl, rfl⟩
theorem Dispose_any (b m : Nat) (p : Option Addr) (c : Nat) (L ks : List It) (gone dup : Bool) (w : World) (H : Pqs w b m p c L ks gone dup) :
    Calls Tryd.prog 24 #[.pointer (some ⟨b, 0, none⟩)] w fun e w' => e = .returned (.tuple #[]) ∧ Pqs w' b m none 0 [] ks true dup ∧ PqFr b m (obk p) (obk none) w w' := by
  have e0 : w.cell? ⟨b, 2, none⟩ = some (.bool gone) := H.q.blk.cell 2 rfl
  have e1 : w.cell? ⟨b, 0, none⟩ = some (.slice p L.length c) := H.q.blk.cell 0 rfl
  have f0 := H.q.blk.free 0
  have f2 := H.q.blk.free 2
  have HH := Lib.hid H
  clear H
  go_enter Tryd.func24, Tryd.ntmps24
  go_wp2_with fail
  go_end0
  have h1 := (HH.out.q.blk.set 2 (.bool true)).set 0 (.slice none 0 0)
  refine ⟨rfl, ⟨⟨by simpa using h1, World.ownsRow_nil _ _ _ _⟩, (HH.out.v.setCell HH.out.ne _).setCell HH.out.ne _, HH.out.ne⟩, ?_⟩
  have f := (PqFr.store b m (obk p) w (a := ⟨b, 2, none⟩) (.inl rfl) (.bool true)).trans (PqFr.store b m (obk p) _ (a := ⟨b, 0, none⟩) (.inl rfl) (.slice none 0 0))
  exact ⟨f.os, f.tape, f.output, f.size, f.block, fun k h => by cases h⟩
set_option maxRecDepth 100000 in
theorem Peek_any (b m : Nat) (p : Option Addr) (c : Nat) (L ks : List It) (gone dup : Bool) (w : World) (H : Pqs w b m p c L ks gone dup) (h9 : L.length ≤ 100000) :
    Calls Tryd.prog 22 #[.pointer (some ⟨b, 0, none⟩)] w fun e w' => e = .returned (if L.length = 0 then .nilIface else itv (L.getD 0 dI)) ∧ w = w' := by
  obtain ⟨n, hn⟩ : ∃ n, L.length = n := ⟨_, rfl⟩
  have e0 := H.q.c0 hn
  rw [hn] at h9 ⊢
  by_cases h : n = 0
  · rw [if_pos h]
    subst h
    clear hn H
    go_enter Tryd.func22, Tryd.ntmps22
    go_wp2_with fail
    go_ret
    exact ⟨rfl, rfl⟩
  · rw [if_neg h]
    have h0 : 0 < n := by omega
    obtain ⟨⟨x1, x2⟩, hX⟩ : ∃ X, L.getD 0 dI = X := ⟨_, rfl⟩
    have hg : ∃ g, p = some ⟨g, 0, none⟩ := by
      rcases pq_g H.q with ⟨_, e⟩ | ⟨g, e, _⟩
      · rw [e] at hn; simp at hn; omega
      · exact ⟨g, e⟩
    obtain ⟨g, rfl⟩ := hg
    have e1 := H.q.ci 0 n x1 x2 hn h0 hX
    rw [hX]
    unfold itv
    clear hn H hX h
    go_enter Tryd.func22, Tryd.ntmps22
    go_wp2_with fail
    go_ret
    exact ⟨rfl, rfl⟩

theorem mk_items (N : Nat) (w : World) (hN : N ≤ 64) : (Instr.makeSlice 50 (.int .i64 0) (.int .i64 (N : Int))).run Tryd.prog w = .ok (.slice (some ⟨w.heap.size, 0, none⟩) 0 N) (w.alloc (.cells (madeCells #[.nilIface] N) 64)) := by
  obtain ⟨i, h2, h3, h4, h5⟩ := info_parts info_qitem
  have := run_make (P := Tryd.prog) w 50 64 i .nilIface Tryd.underlying50 h2 h3 .i64 .i64 0 (N : Int) (by omega) (by omega) (by rw [h5]; omega) (by omega)
  rw [this, h4]
  simp [Value.cells]
theorem mk_map (N : Nat) (w : World) (hN : N ≤ 64) : (Instr.makeMap 51 (some (.int .i64 (N : Int)))).run Tryd.prog w = .ok (.map (some w.heap.size)) (w.alloc (.map #[] 0)) := by
  simp [Instr.makeMap, run_underlying Tryd.underlying51, asInt, asIntOf, newObj]
  rfl

set_option maxRecDepth 100000 in
theorem New_any (N : Nat) (dup : Bool) (w : World) (hN : N ≤ 64) :
    Calls Tryd.prog 11 #[.int .i64 (N : Int), .bool dup] w fun e w' => ∃ b m p c, e = .returned (.pointer (some ⟨b, 0, none⟩)) ∧ Pqs w' b m p c [] [] false dup ∧ Below w.heap.size w w' ∧ w.heap.size ≤ b ∧ w.heap.size ≤ m ∧ ∀ k, obk p = some k → w.heap.size ≤ k := by
  have hmk := fun w => mk_items N w hN
  have hmm := fun w => mk_map N w hN
  go_enter Tryd.func11, Tryd.ntmps11
  go_wp2_with fail
  go_region
  · go_wp2_with fail
    go_ret
    have ho := ((World.ownsRow_made (base := 0) (size := 1) (e := 64) w (madeCells #[.nilIface] N) N (Nat.zero_le _) (by unfold maxLen; omega) (by rw [size_madeCells]; simp)).alloc (.map #[] 0)).alloc (.cells #[.slice (some ⟨w.heap.size, 0, none⟩) 0 N, .map (some (w.heap.size + 1)), .bool false, .bool dup] 53)
    refine ⟨w.heap.size + 1 + 1, w.heap.size + 1, some ⟨w.heap.size, 0, none⟩, N, rfl, ⟨⟨?_, ho.drew⟩, ?_, by omega⟩, ?_, by omega, by omega, fun k e => ?_⟩
    · have := Blk.new ((w.alloc (.cells (madeCells #[.nilIface] N) 64)).alloc (.map #[] 0)) 53 #[.slice (some ⟨w.heap.size, 0, none⟩) 0 N, .map (some (w.heap.size + 1)), .bool false, .bool dup]
      simpa using this.drew
    · have := (VMap.made (w.alloc (.cells (madeCells #[.nilIface] N) 64)) itv).alloc (.cells #[.slice (some ⟨w.heap.size, 0, none⟩) 0 N, .map (some (w.heap.size + 1)), .bool false, .bool dup] 53)
      simpa [setp] using this.drew
    · exact ((((Below.refl _ _).alloc (Nat.le_refl _) _).alloc (by simp) _).alloc (by simp; omega) _).drew
    · have e : w.heap.size = k := by injection e
      omega
  · go_wp2_with fail
    go_ret
    have ho := (World.ownsRow_made (base := 0) (size := 1) (e := 64) (w.alloc (.map #[] 0)) (madeCells #[.nilIface] N) N (Nat.zero_le _) (by unfold maxLen; omega) (by rw [size_madeCells]; simp)).alloc (.cells #[.slice (some ⟨w.heap.size + 1, 0, none⟩) 0 N, .map (some w.heap.size), .bool false, .bool dup] 53)
    rw [show (w.alloc (.map #[] 0)).heap.size = w.heap.size + 1 by simp] at ho
    refine ⟨w.heap.size + 1 + 1, w.heap.size, some ⟨w.heap.size + 1, 0, none⟩, N, rfl, ⟨⟨?_, ho.drew⟩, ?_, by omega⟩, ?_, by omega, by omega, fun k e => ?_⟩
    · have := Blk.new ((w.alloc (.map #[] 0)).alloc (.cells (madeCells #[.nilIface] N) 64)) 53 #[.slice (some ⟨w.heap.size + 1, 0, none⟩) 0 N, .map (some w.heap.size), .bool false, .bool dup]
      simpa using this.drew
    · have := ((VMap.made w itv).alloc (.cells (madeCells #[.nilIface] N) 64)).alloc (.cells #[.slice (some ⟨w.heap.size + 1, 0, none⟩) 0 N, .map (some w.heap.size), .bool false, .bool dup] 53)
      simpa [setp] using this.drew
    · exact ((((Below.refl _ _).alloc (Nat.le_refl _) _).alloc (by simp) _).alloc (by simp; omega) _).drew
    · have e : w.heap.size + 1 = k := by injection e
      omega

/-- what a queue holds behind a Put: the map's keys follow -/
def putK (dup : Bool) (L : List It) (ks : List It) (x : It) : List It × List It := if dup then (L ++ [x], ks) else if x ∈ ks then (L, ks) else (L ++ [x], ks ++ [x])
/-- the elements after a row of Puts, as a list to be compared up to order -/
def putAll (dup : Bool) (q : List It) (l : List It) : List It := l.foldl (fun q x => if dup || !decide (x ∈ q) then q ++ [x] else q) q
theorem putAll_snoc (dup : Bool) (q l : List It) (x : It) : putAll dup q (l ++ [x]) = if dup || !decide (x ∈ putAll dup q l) then putAll dup q l ++ [x] else putAll dup q l := by
  unfold putAll; rw [List.foldl_append]; rfl
theorem putAll_len (dup : Bool) : ∀ (l q : List It), (putAll dup q l).length ≤ q.length + l.length
  | [], q => by simp [putAll]
  | x :: r, q => by
    have := putAll_len dup r (if dup || !decide (x ∈ q) then q ++ [x] else q)
    have e : putAll dup q (x :: r) = putAll dup (if dup || !decide (x ∈ q) then q ++ [x] else q) r := rfl
    rw [e]
    split at this
    · rename_i h; rw [if_pos h]; simp at this ⊢; omega
    · rename_i h; rw [if_neg h]; simp at this ⊢; omega
/-- the map's keys: none with duplicates, else the elements -/
def KsOk (dup : Bool) (ks q : List It) : Prop := if dup then ks = [] else ks.Perm q ∧ q.Nodup

def PutLoop (n b m : Nat) (l L0 : List It) (dup : Bool) (g0 : Option Nat) (w : World) (k : Nat) (idx : Value) (wr : World) : Prop :=
  ∃ (i : Nat) (p : Option Addr) (c : Nat) (L ks : List It), idx = .int .i64 (i : Int) ∧ i + k = n ∧ Pqs wr b m p c L ks false dup ∧ Heap L ∧ L.Perm (putAll dup L0 (l.take i)) ∧ KsOk dup ks (putAll dup L0 (l.take i)) ∧ PqFr b m g0 (obk p) w wr
theorem take_getI (l : List It) (i : Nat) (h : i < l.length) : l.take (i + 1) = l.take i ++ [l.getD i dI] := by
  rw [List.take_succ_eq_append_getElem h]; simp [h]
theorem zero_unitp (w : World) : (zeroValue 69).run Tryd.prog w = .ok (.agg #[]) w := by kernel_rfl

set_option maxRecDepth 100000 in
set_option maxHeartbeats 2000000 in
theorem Put_any (b m : Nat) (p : Option Addr) (c : Nat) (L ks q l : List It) (dup : Bool) (v : Value) (w : World) (H : Pqs w b m p c L ks false dup) (hh : Heap L) (hp : L.Perm q) (hk : KsOk dup ks q) (hv : Sl w v (itvs l)) (hap : ∀ a n c, v = .slice (some a) n c → a.block ≠ b ∧ a.block ≠ m ∧ obk p ≠ some a.block) (h9 : q.length + l.length ≤ 100000) (h0 : l ≠ []) :
    Calls Tryd.prog 18 #[.pointer (some ⟨b, 0, none⟩), v] w fun e w' => e = .returned .nilIface ∧ ∃ p' c' L' ks', Pqs w' b m p' c' L' ks' false dup ∧ Heap L' ∧ L'.Perm (putAll dup q l) ∧ KsOk dup ks' (putAll dup q l) ∧ PqFr b m (obk p) (obk p') w w' := by
  obtain ⟨a, n, cap, rfl, hla, hc, hmx, hr⟩ := hv
  rw [itvs_len] at hla
  have hn0 : 0 < n := by cases l with | nil => exact absurd rfl h0 | cons _ _ => simp at hla; omega
  have hn0' : ((n : Int) == 0) = false := by simp; omega
  have c2 : w.cell? ⟨b, 2, none⟩ = some (.bool false) := H.q.blk.cell 2 rfl
  have hn9 : n ≤ 100000 := by omega
  have HL := Lib.hid hla
  have HS := Lib.hid H
  have HHP := Lib.hid hh
  have HP := Lib.hid hp
  have HK := Lib.hid hk
  have H9 := Lib.hid h9
  clear hla H hh hp hk h0 h9
  go_enter Tryd.func18, Tryd.ntmps18
  go_wp2_with fail
  go_loopg [19] n (fun k idx wr => PutLoop n b m l q dup (obk p) w k idx wr)
  case atStart => exact ⟨0, p, c, L, ks, rfl, by omega, HS.out, HHP.out, by simpa [putAll] using HP.out, by simpa [putAll] using HK.out, PqFr.refl _ _ _ _⟩
  case round =>
    obtain ⟨i, p1, c1, L1, ks1, rfl, hik, hpq, hhp, hperm, hks, hfr⟩ := hrel
    have HQ := Lib.hid hpq
    have HF := Lib.hid hfr
    have HH1 := Lib.hid hhp
    have HPE := Lib.hid hperm
    have HKS := Lib.hid hks
    have e3 : wr.cell? ⟨b, 3, none⟩ = some (.bool dup) := hpq.q.blk.cell 3 rfl
    have e1 : wr.cell? ⟨b, 1, none⟩ = some (.map (some m)) := hpq.q.blk.cell 1 rfl
    have hL9 : L1.length ≤ 100000 := by
      have h1 := hperm.length_eq
      have h2 := putAll_len dup (l.take i) q
      have h3 : (l.take i).length ≤ l.length := by rw [List.length_take]; omega
      have h4 := H9.out
      omega
    clear hpq hfr hhp hperm hks c2
    by_cases hi : i < n
    · cases gk with
      | zero => omega
      | succ k =>
        obtain ⟨b1, o1, rfl, hcell⟩ := hr (by omega)
        have hpb := hap _ _ _ rfl
        have h1 := hcell i _ (itvs_at l i (by rw [HL.out]; exact hi))
        have h1b : wr.cell? ⟨b1, o1 + i, none⟩ = some (itv (l.getD i dI)) := by
          rw [← h1]
          exact World.cell?_of_block (HF.out.block b1 (World.block_lt_of_cell? w _ h1) hpb.1 hpb.2.1 (fun e => hpb.2.2 e.symm))
        have ht := take_getI l i (by rw [HL.out]; exact hi)
        obtain ⟨X, hX⟩ : ∃ X, l.getD i dI = X := ⟨_, rfl⟩
        rw [hX] at ht h1b
        have HTK := Lib.hid ht
        clear hr hcell hX ht h1 hap hpb
        cases dup with
        | true =>
          have HC := Lib.hid (push_any b m p1 c1 L1 false true X wr HQ.out.q HH1.out hL9)
          go_wp2_with fail
          refine HC.out.mono ?_
          rintro e w2 ⟨rfl, p2, c2, L2, hq2, hh2, hp2, hf2⟩
          have HQ2 := Lib.hid (HQ.out.fr hq2 hf2)
          have HH2 := Lib.hid hh2
          have HP2 := Lib.hid hp2
          have HF2 := Lib.hid (HF.out.trans hf2.weaken)
          clear hq2 hh2 hp2 hf2
          go_wp2_with fail
          go_roundg k
          case measure => omega
          case rel =>
            refine ⟨i + 1, p2, c2, L2, ks1, by go_num, by omega, HQ2.out, HH2.out, ?_, ?_, HF2.out⟩
            · rw [HTK.out, putAll_snoc]
              simp only [Bool.true_or, if_true]
              exact HP2.out.trans (HPE.out.append_right _)
            · exact HKS.out
        | false =>
          by_cases hin : X ∈ ks1
          · have hg := setp_get X ks1
            rw [if_pos hin] at hg
            have HIN := Lib.hid hin
            have HG := Lib.hid hg
            clear hin hg
            go_wp2_with (at_lookup; refine wpList_vlook_ok _ rfl _ _ 51 rfl 64 69 KPQ Tryd.underlying51 (zero_unitp _) m _ rfl HQ.out.v X rfl _ HG.out ?_)
            go_roundg k
            case measure => omega
            case rel =>
              have hks := HKS.out
              unfold KsOk at hks
              rw [if_neg (by simp)] at hks
              have hin : X ∈ putAll false q (l.take i) := hks.1.mem_iff.1 HIN.out
              have he : putAll false q (l.take (i + 1)) = putAll false q (l.take i) := by
                rw [HTK.out, putAll_snoc]
                simp [hin]
              have hbz : Below wr.heap.size wr (wr.alloc (.cells #[] 69)) := (Below.refl _ _).alloc (Nat.le_refl _) _
              refine ⟨i + 1, p1, c1, L1, ks1, by go_num, by omega, HQ.out.below hbz, HH1.out, by rw [he]; exact HPE.out, by rw [he]; exact HKS.out, HF.out.trans (PqFr.of_below hbz)⟩
          · have hg := setp_get X ks1
            rw [if_neg hin] at hg
            have HIN := Lib.hid hin
            have HG := Lib.hid hg
            clear hin hg
            have hbz : Below wr.heap.size wr (wr.alloc (.cells #[] 69)) := (Below.refl _ _).alloc (Nat.le_refl _) _
            have hqz := HQ.out.below hbz
            have e1z : (wr.alloc (.cells #[] 69)).cell? ⟨b, 1, none⟩ = some (.map (some m)) := hqz.q.blk.cell 1 rfl
            have HQZ := Lib.hid hqz
            have HFZ : Hid (PqFr b m (obk p) (obk p1) w (wr.alloc (.cells #[] 69))) := Lib.hid (HF.out.trans (PqFr.of_below hbz))
            clear hbz hqz
            go_wp2_with (first
              | (at_lookup; refine wpList_vlook_ok _ rfl _ _ 51 rfl 64 69 KPQ Tryd.underlying51 (zero_unitp _) m _ rfl HQ.out.v X rfl _ HG.out ?_)
              | (at_mapUpdate; refine wpList_vput _ rfl _ _ _ 51 rfl 64 69 KPQ Tryd.underlying51 m _ rfl HQZ.out.v X rfl (.agg #[]) rfl ?_; intro w1 hvm ht1; have HVM := Lib.hid hvm; have HT1 := Lib.hid ht1; have hq1 : Pqs w1 b m p1 c1 L1 (ks1 ++ [X]) false false := ⟨HQZ.out.q.grown ht1.grown (fun j e => by injection e with e; subst e; exact ⟨HQZ.out.ne, HQZ.out.g⟩), (by have h2 := HVM.out; rw [setp_put, if_neg HIN.out] at h2; exact h2), HQZ.out.ne⟩; have HQ1 := Lib.hid hq1; have f1 : w1.cell? ⟨b, 0, none⟩ = some (.slice p1 L1.length c1) := hq1.q.blk.cell 0 rfl; clear hvm ht1 hq1))
            refine (push_any b m p1 c1 L1 false false X w1 HQ1.out.q HH1.out hL9).mono ?_
            rintro e w2 ⟨rfl, p2, c2, L2, hq2, hh2, hp2, hf2⟩
            have HQ2 := Lib.hid (HQ1.out.fr hq2 hf2)
            have HH2 := Lib.hid hh2
            have HP2 := Lib.hid hp2
            have HF2 : Hid (PqFr b m (obk p) (obk p2) w w2) := Lib.hid ((HFZ.out.trans ⟨HT1.out.grown.os, HT1.out.grown.tape, HT1.out.grown.output, HT1.out.grown.size, fun k hk _ h2 _ => HT1.out.grown.block k hk (fun e => h2 (by injection e)), fun k hk => .inl hk⟩).trans hf2.weaken)
            clear hq2 hh2 hp2 hf2 f1 e1z e1
            go_wp2_with fail
            go_roundg k
            case measure => omega
            case rel =>
              have hks := HKS.out
              unfold KsOk at hks
              rw [if_neg (by simp)] at hks
              have hin : X ∉ putAll false q (l.take i) := fun h => HIN.out (hks.1.mem_iff.2 h)
              have he : putAll false q (l.take (i + 1)) = putAll false q (l.take i) ++ [X] := by
                rw [HTK.out, putAll_snoc]
                simp [hin]
              refine ⟨i + 1, p2, c2, L2, ks1 ++ [X], by go_num, by omega, HQ2.out, HH2.out, ?_, ?_, HF2.out⟩
              · rw [he]
                exact HP2.out.trans (HPE.out.append_right _)
              · rw [he]
                unfold KsOk
                rw [if_neg (by simp)]
                refine ⟨hks.1.append_right _, ?_⟩
                rw [List.nodup_append]
                refine ⟨hks.2, by simp, fun a ha b hb => ?_⟩
                simp only [List.mem_singleton] at hb
                subst hb
                intro e; subst e; exact hin ha
    · obtain ⟨I, hI⟩ : ∃ I, I = n := ⟨_, rfl⟩
      obtain rfl : i = I := by omega
      subst hI
      have hd : decide ((i : Int) < (i : Int)) = false := by simp
      clear hap
      go_wp2_with fail
      go_ret
      have e : l.take i = l := List.take_of_length_le (by rw [HL.out]; exact Nat.le_refl _)
      have h1 := HPE.out
      have h2 := HKS.out
      rw [e] at h1 h2
      exact ⟨rfl, p1, c1, L1, ks1, HQ.out, HH1.out, h1, h2, HF.out⟩

/-- the error of a number: 0 none, 1 ErrDisposed -/
def perr (a0 : Addr) (n : Int) : Value := if n = 0 then .nilIface else .iface 76 (.pointer (some a0))
theorem Put_gone (a0 a1 a2 : Addr) (b m : Nat) (p : Option Addr) (c : Nat) (L ks l : List It) (dup : Bool) (v : Value) (w : World) (hS : Sn w a0 a1 a2) (H : Pqs w b m p c L ks true dup) (hv : Sl w v (itvs l)) (h0 : l ≠ []) (h9 : l.length ≤ 100000) :
    Calls Tryd.prog 18 #[.pointer (some ⟨b, 0, none⟩), v] w fun e w' => e = .returned (.iface 76 (.pointer (some a0))) ∧ w = w' := by
  obtain ⟨a, n, cap, rfl, hla, hc, hmx, hr⟩ := hv
  rw [itvs_len] at hla
  have hn0 : 0 < n := by cases l with | nil => exact absurd rfl h0 | cons _ _ => simp at hla; omega
  have hn0' : ((n : Int) == 0) = false := by simp; omega
  have c2 : w.cell? ⟨b, 2, none⟩ = some (.bool true) := H.q.blk.cell 2 rfl
  have hn9 : n ≤ 100000 := by omega
  have g0 := hS.c0
  clear hla H h0 h9 hS hr hn0
  go_enter Tryd.func18, Tryd.ntmps18
  go_wp2_with fail
  go_ret
  exact ⟨rfl, rfl⟩
theorem Get_gone (a0 a1 a2 : Addr) (b m : Nat) (p : Option Addr) (c : Nat) (L ks : List It) (dup : Bool) (N : Nat) (w : World) (hS : Sn w a0 a1 a2) (H : Pqs w b m p c L ks true dup) (hN0 : 1 ≤ N) (hN : N ≤ 1000) :
    Calls Tryd.prog 21 #[.pointer (some ⟨b, 0, none⟩), .int .i64 (N : Int)] w fun e w' => e = .returned (.tuple #[.slice none 0 0, .iface 76 (.pointer (some a0))]) ∧ Below w.heap.size w w' := by
  have hw1 : Below w.heap.size w (w.alloc (.cells #[.pointer (some ⟨b, 0, none⟩)] 41)) := (Below.refl _ _).alloc (Nat.le_refl _) _
  have H1 := H.below hw1
  have hlt : decide ((N : Int) < 1) = false := by simp; omega
  have c2 : (w.alloc (.cells #[.pointer (some ⟨b, 0, none⟩)] 41)).cell? ⟨b, 2, none⟩ = some (.bool true) := H1.q.blk.cell 2 rfl
  have g0 := (hS.below (Nat.le_refl _) hw1).c0
  have HW := Lib.hid hw1
  clear H H1 hw1 hS
  go_enter Tryd.func21, Tryd.ntmps21
  go_wp2_with fail
  go_quiet (fail)
  go_wp2_with fail
  go_ret2
  exact ⟨rfl, below_drewN HW.out _⟩
theorem pqerr0 (w : World) : Calls Tryd.prog 17 #[.nilIface] w fun e w' => e = .returned (.int .i64 0) ∧ w = w' := by
  go_enter Tryd.func17, Tryd.ntmps17
  go_wp2_with fail
  go_ret
  exact ⟨rfl, rfl⟩
theorem pqerr1 (a0 a1 a2 : Addr) (w : World) (h : Sn w a0 a1 a2) : Calls Tryd.prog 17 #[.iface 76 (.pointer (some a0))] w fun e w' => e = .returned (.int .i64 1) ∧ w = w' := by
  have h0 := h.c0
  have e0 := eq_same w a0
  clear h
  go_enter Tryd.func17, Tryd.ntmps17
  go_wp2_with fail
  go_ret
  exact ⟨rfl, rfl⟩
end Go.Proofs.YtepjailijekepaaDoor
