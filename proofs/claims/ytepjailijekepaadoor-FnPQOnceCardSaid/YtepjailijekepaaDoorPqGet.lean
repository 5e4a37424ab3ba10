/- Walks of package queue: get, Get. -/
import Derived.Test.YtepjailijekepaaDoorPqPop
namespace Go.Proofs.YtepjailijekepaaDoor
set_option linter.unusedVariables false
open Go.RowKit
open Pqm

/-- what is left when elements are taken, each one the least -/
def Takes : List It → List It → List It → Prop
  | q, [], q' => q.Perm q'
  | q, x :: r, q' => x ∈ q ∧ (∀ y ∈ q, x.1 ≤ y.1) ∧ Takes (q.erase x) r q'
theorem takes_snoc {x : It} {q2 : List It} : ∀ {got q q1 : List It}, Takes q got q1 → (x :: q2).Perm q1 → (∀ y ∈ q1, x.1 ≤ y.1) → Takes q (got ++ [x]) q2
  | [], q, q1, h, hp, hm => by
    have h : q.Perm q1 := h
    have hx : x ∈ q := h.mem_iff.2 (hp.mem_iff.1 (by simp))
    refine ⟨hx, fun y hy => hm y (h.mem_iff.1 hy), ?_⟩
    have h1 := (hp.trans h.symm).erase x
    simp at h1
    exact h1.symm
  | g :: r, q, q1, h, hp, hm => ⟨h.1, h.2.1, takes_snoc h.2.2 hp hm⟩
theorem takes_perm {q' : List It} : ∀ {got q q1 : List It}, q.Perm q1 → Takes q got q' → Takes q1 got q'
  | [], q, q1, h, ht => h.symm.trans ht
  | g :: r, q, q1, h, ht => ⟨h.mem_iff.1 ht.1, fun y hy => ht.2.1 y (h.mem_iff.2 hy), takes_perm (h.erase g) ht.2.2⟩
theorem takes_len {q' : List It} : ∀ {got q : List It}, Takes q got q' → got.length + q'.length = q.length
  | [], q, h => by have h : q.Perm q' := h; simp [h.length_eq]
  | g :: r, q, h => by
    have h1 := takes_len h.2.2
    have h2 := List.length_erase_of_mem h.1
    have h3 := List.length_pos_of_mem h.1
    simp only [List.length_cons]
    omega
theorem heap_least {L : List It} (hh : Heap L) : ∀ y ∈ L, (L.getD 0 dI).1 ≤ y.1 := by
  intro y hy
  obtain ⟨i, hi, rfl⟩ := List.getElem_of_mem hy
  have := heap_min hh i hi
  unfold key at this
  rw [show L.getD i dI = L[i] by rw [List.getD_eq_getElem?_getD, List.getElem?_eq_getElem hi]; rfl] at this
  exact this

theorem PqFr.owns {b m : Nat} {g g' : Option Nat} {w w' : World} (h : PqFr b m g g' w w') {B : Nat} {e : TypeId} {size : Nat} {v : Value} {n : Nat} {xs : List Value} (ho : w.ownsRow B e size v n xs) (hv : ∀ k, v.ownBlock = some k → k ≠ b ∧ k ≠ m ∧ some k ≠ g) : w'.ownsRow B e size v n xs := by
  refine ⟨ho.1, ?_⟩
  have hl := ho.lt
  rcases ho.2 with h0 | ⟨g1, cap, cur, rfl, hbg, hg, r⟩
  · exact .inl h0
  · exact .inr ⟨g1, cap, cur, rfl, hbg, (h.block g1 (hl g1 rfl).2 (hv g1 rfl).1 (hv g1 rfl).2.1 (hv g1 rfl).2.2).trans hg, r⟩

theorem Pq.grown {w w' : World} {b m : Nat} {p : Option Addr} {c : Nat} {h : List It} {gone dup : Bool} {row : Option Nat} (H : Pq w b m p c h gone dup) (hg : w.grownBy w' row) (hne : ∀ j, row = some j → j ≠ b ∧ obk p ≠ some j) : Pq w' b m p c h gone dup := by
  refine ⟨H.blk.grown hg (fun e => (hne b e).1 rfl), H.own.kept hg ?_⟩
  rw [own_obk H]
  cases row with
  | none => cases hp : obk p with
    | none => exact .inl rfl
    | some k => exact .inr (by simp)
  | some j => exact .inr (hne j rfl).2

theorem PqFr.step {b m : Nat} {g g' : Option Nat} {w w2 w3 : World} {row : Option Nat} (h : PqFr b m g g' w w2) (hg : w2.grownBy w3 row) (hr : ∀ j, row = some j → w.heap.size ≤ j) : PqFr b m g g' w w3 :=
  ⟨hg.os.trans h.os, hg.tape.trans h.tape, hg.output.trans h.output, Nat.le_trans h.size hg.size, fun k hk h1 h2 h3 => (hg.block k (Nat.lt_of_lt_of_le hk h.size) (fun e => by have := hr k e.symm; omega)).trans (h.block k hk h1 h2 h3), h.next⟩

def GetLoop (N b m : Nat) (p : Option Addr) (c : Nat) (L : List It) (gone dup : Bool) (w : World) (k : Nat) (out idx : Value) (wr : World) : Prop :=
  ∃ (i : Nat) (pa : Option Addr) (ca : Nat) (got L' : List It), out = .slice pa i ca ∧ idx = .int .i64 (i : Int) ∧ i + k = N ∧ got.length = i ∧ wr.ownsRow w.heap.size 64 1 (.slice pa i ca) i (itvs got) ∧ Pq wr b m p c L' gone dup ∧ Heap L' ∧ Takes L got L' ∧ PqFr b b (obk p) (obk p) w wr

theorem own_lt {w : World} {b m : Nat} {p : Option Addr} {c : Nat} {L : List It} {gone dup : Bool} (H : Pq w b m p c L gone dup) : b < w.heap.size ∧ ∀ k, obk p = some k → k < w.heap.size := by
  refine ⟨H.blk.lt, fun k hk => ?_⟩
  rcases pq_g H with ⟨rfl, _⟩ | ⟨g, rfl, _, h, _⟩
  · cases hk
  · have e : g = k := by injection hk
    rw [← e]; exact h

set_option maxRecDepth 100000 in
set_option maxHeartbeats 2000000 in
theorem get_any (b m : Nat) (p : Option Addr) (c : Nat) (L : List It) (gone dup : Bool) (N : Nat) (w : World) (H : Pq w b m p c L gone dup) (hh : Heap L) (h9 : L.length ≤ 100000) (hN : N ≤ 1000) :
    Calls Tryd.prog 27 #[.pointer (some ⟨b, 0, none⟩), .int .i64 (N : Int)] w fun e w' => ∃ (pa : Option Addr) (ca : Nat) (got L' : List It), e = .returned (.slice pa got.length ca) ∧
      w'.ownsRow w.heap.size 64 1 (.slice pa got.length ca) got.length (itvs got) ∧ Pq w' b m p c L' gone dup ∧ Heap L' ∧ Takes L got L' ∧ got.length = min N L.length ∧ PqFr b b (obk p) (obk p) w w' := by
  have HH := Lib.hid H
  have HHP := Lib.hid hh
  have HLT := Lib.hid (own_lt H)
  clear H hh
  go_enter Tryd.func27, Tryd.ntmps27
  go_wp2_with (at_make; refine wpList_make2 rfl _ _ 49 rfl w.heap.size 64 .nilIface 16 Tryd.underlying49 info_qitem rfl .i64 .i64 0 (N : Int) 0 N rfl rfl rfl rfl (Nat.zero_le _) (by omega) (by unfold maxLen; omega) (Nat.le_refl _) ?_; intro w1 hown1 hb1 hz1)
  have HO1 := Lib.hid hown1
  have HB1 := Lib.hid hb1
  clear hown1 hb1
  go_loopg [5, 6] N (fun k out idx wr => GetLoop N b m p c L gone dup w k out idx wr)
  case atStart => exact ⟨0, _, _, [], L, rfl, rfl, by omega, rfl, HO1.out, HH.out.below HB1.out, HHP.out, List.Perm.refl _, PqFr.of_below HB1.out⟩
  case round =>
    obtain ⟨i, pa, ca, got, L', rfl, rfl, hik, hgl, hown, hpq, hhp, htk, hfr⟩ := hrel
    have HO := Lib.hid hown
    have HQ := Lib.hid hpq
    have HP := Lib.hid hhp
    have HT := Lib.hid htk
    have HF := Lib.hid hfr
    have HGL := Lib.hid hgl
    have hsz : w.heap.size ≤ wr.heap.size := hfr.size
    have hLL := takes_len htk
    clear hown hhp htk hfr
    by_cases hi : i < N
    · cases gk with
      | zero => omega
      | succ k =>
        by_cases h0 : L'.length = 0
        · have e0 := hpq.c0 h0
          have H0 := Lib.hid h0
          have HLL := Lib.hid hLL
          clear h0 hpq hLL hgl
          go_wp2_with fail
          go_ret
          refine ⟨pa, ca, got, L', by rw [HGL.out]; rfl, by rw [HGL.out]; exact HO.out, HQ.out, HP.out, HT.out, ?_, HF.out⟩
          have := HLL.out
          have := H0.out
          have := HGL.out
          omega
        · have hpp : ∃ g, p = some ⟨g, 0, none⟩ := by
            rcases pq_g hpq with ⟨_, e⟩ | ⟨g, e, _⟩
            · rw [e] at h0; exact absurd rfl h0
            · exact ⟨g, e⟩
          obtain ⟨g, rfl⟩ := hpp
          obtain ⟨n', hn'⟩ : ∃ n', L'.length = n' + 1 := ⟨L'.length - 1, by omega⟩
          have e0 := hpq.c0 hn'
          have HC := Lib.hid (pop_any b m g c L' gone dup wr hpq HP.out (by omega) (by omega))
          have hn9 : n' < 100000 := by omega
          have hmx : i + 1 ≤ maxLen := by unfold maxLen; omega
          have HM := Lib.hid (heap_least HP.out)
          clear hn' h0 hLL hpq hgl
          go_wp2_with fail
          refine HC.out.mono ?_
          rintro e w2 ⟨rfl, L2, hpq2, hhp2, hperm2, hfr2⟩
          obtain ⟨⟨x1, x2⟩, hX⟩ : ∃ X, L'.getD 0 dI = X := ⟨_, rfl⟩
          rw [hX] at hperm2 HM
          have hown2 := hfr2.owns HO.out (fun k hk => ⟨by have h1 := (HO.out.lt k hk).1; have h2 := HLT.out.1; omega, by have h1 := (HO.out.lt k hk).1; have h2 := HLT.out.1; omega, fun e => by have h1 := (HO.out.lt k hk).1; have h2 := HLT.out.2 k (by rw [show obk (some ⟨g, 0, none⟩ : Option Addr) = some g from rfl, e]); omega⟩)
          have HO2 := Lib.hid hown2
          have HQ2 := Lib.hid hpq2
          have HP2 := Lib.hid hhp2
          have HPE := Lib.hid hperm2
          have HF2 := Lib.hid (HF.out.trans hfr2)
          have hs2 : wr.heap.size ≤ w2.heap.size := hfr2.size
          rw [hX]
          unfold itv
          clear hown2 hpq2 hhp2 hperm2 hfr2 hX e0
          go_wp2_with (at_builtin; refine wpList_append1_at rfl _ _ 49 rfl w.heap.size 64 .nilIface 16 Tryd.underlying49 info_qitem rfl (.slice pa i ca) i (itvs got) rfl HO2.out (.iface 55 (.agg #[.int .i64 x1, .int .i64 x2])) rfl rfl hmx (by omega) (by omega) ?_; intro g3 cap3 w3 hown3 hg3 hb3 hat3; have HO3 := Lib.hid hown3; have HB3 := Lib.hid hg3; clear hown3 hg3 hb3 hat3)
          go_roundg k
          case measure => omega
          case rel =>
            have hne : ∀ j, (Value.slice pa i ca).ownBlock = some j → w.heap.size ≤ j := fun j hj => (HO2.out.lt j hj).1
            have hmin : ∀ y ∈ L', (x1, x2).1 ≤ y.1 := HM.out
            refine ⟨i + 1, _, _, got ++ [(x1, x2)], L2, rfl, by go_num, by omega, by simp [HGL.out], ?_, ?_, HP2.out, takes_snoc HT.out HPE.out hmin, ?_⟩
            · rw [itvs_app]; exact HO3.out
            · exact HQ2.out.grown HB3.out (fun j hj => by have h1 := hne j hj; have h2 := HLT.out; exact ⟨by omega, fun e => by have := h2.2 j e; omega⟩)
            · exact HF2.out.step HB3.out hne
    · obtain ⟨I, hI⟩ : ∃ I, I = N := ⟨_, rfl⟩
      obtain rfl : i = I := by omega
      subst hI
      have HQ0 := HQ.out
      clear hpq
      go_wp2_with fail
      go_ret
      refine ⟨pa, ca, got, L', by rw [HGL.out]; rfl, by rw [HGL.out]; exact HO.out, HQ.out, HP.out, HT.out, ?_, HF.out⟩
      have := HGL.out
      omega

theorem One.fr {w w' : World} {b r : Nat} {g g' : Option Nat} {t : TypeId} {v : Value} (h : One w r t v) (hf : PqFr b b g g' w w') (h1 : r ≠ b) (h2 : g ≠ some r) : One w' r t v := (hf.block r h.lt h1 h1 (fun e => h2 e.symm)).trans h

theorem rowp_weaken {w : World} {B B' : Nat} {e : TypeId} {size : Nat} {v : Value} {n : Nat} {xs : List Value} (h : w.ownsRow B e size v n xs) (hB : B' ≤ B) : w.ownsRow B' e size v n xs := by
  refine ⟨h.1, ?_⟩
  rcases h.2 with h0 | ⟨g, cap, cur, rfl, hbg, hg, r⟩
  · exact .inl h0
  · exact .inr ⟨g, cap, cur, rfl, Nat.le_trans hB hbg, hg, r⟩
theorem rowp_below {w w' : World} {B : Nat} {e : TypeId} {size : Nat} {v : Value} {n : Nat} {xs : List Value} (h : w.ownsRow B e size v n xs) (hb : Below w.heap.size w w') : w'.ownsRow B e size v n xs := by
  refine ⟨h.1, ?_⟩
  rcases h.2 with h0 | ⟨g, cap, cur, e, hbg, hg, r⟩
  · exact .inl h0
  · exact .inr ⟨g, cap, cur, e, hbg, (hb.block g (Array.getElem?_eq_some_iff.1 hg).1).trans hg, r⟩

/-- elements as a map's keys -/
def setp (l : List It) : List (It × Value) := l.map fun n => (n, .agg #[])
theorem setp_del (a : It) (l : List It) : Vm.del a (setp l) = setp (l.erase a) := by
  induction l with
  | nil => rfl
  | cons b r ih =>
    simp only [setp, List.map_cons, Vm.del, List.erase_cons]
    by_cases h : b = a
    · subst h; simp
    · have h3 : ¬ (b == a) = true := by simpa using h
      simp only [h, h3, if_false]
      simp only [setp] at ih
      rw [ih]
      simp
theorem setp_get (a : It) (l : List It) : Vm.get a (setp l) = if a ∈ l then some (.agg #[]) else none := by
  induction l with
  | nil => rfl
  | cons b r ih =>
    simp only [setp, List.map_cons, Vm.get, List.mem_cons]
    by_cases h : b = a
    · subst h; simp
    · have h2 : ¬ a = b := fun e => h e.symm
      simp only [h, h2, if_false, false_or]
      exact ih
theorem setp_put (a : It) (l : List It) : Vm.put a (.agg #[]) (setp l) = setp (if a ∈ l then l else l ++ [a]) := by
  induction l with
  | nil => rfl
  | cons b r ih =>
    simp only [setp, List.map_cons, Vm.put, List.mem_cons]
    by_cases h : b = a
    · subst h; simp
    · have h2 : ¬ a = b := fun e => h e.symm
      simp only [h, h2, if_false, false_or]
      simp only [setp] at ih
      rw [ih]
      split <;> simp
def eraseAll (ks got : List It) : List It := got.foldl List.erase ks
theorem eraseAll_snoc (ks got : List It) (x : It) : eraseAll ks (got ++ [x]) = (eraseAll ks got).erase x := by
  unfold eraseAll; rw [List.foldl_append]; rfl

/-- the queue with its map -/
structure Pqs (w : World) (b m : Nat) (p : Option Addr) (c : Nat) (L ks : List It) (gone dup : Bool) : Prop where
  q : Pq w b m p c L gone dup
  v : VMap w itv m (setp ks)
  ne : m ≠ b
theorem Pqs.g {w : World} {b m : Nat} {p : Option Addr} {c : Nat} {L ks : List It} {gone dup : Bool} (H : Pqs w b m p c L ks gone dup) : obk p ≠ some m := by
  intro e
  rcases H.q.own.2 with ⟨e1, _⟩ | ⟨g, cap, cur, e1, _, hg, _⟩
  · injection e1 with e1 _ _
    rw [e1] at e; cases e
  · injection e1 with e1 _ _
    rw [e1] at e
    have e : g = m := by injection e
    subst e
    obtain ⟨es, cl, hm, _⟩ := H.v
    rw [hm] at hg
    simp at hg
theorem VMap.fr {w w' : World} {b m : Nat} {l : List (It × Value)} {r r' : Option Nat} (h : VMap w itv m l) (hf : PqFr b b r r' w w') (h1 : m ≠ b) (h2 : r ≠ some m) : VMap w' itv m l := h.of_block (hf.block m h.lt h1 h1 (fun e => h2 e.symm))

def DelLoop (n b m : Nat) (p : Option Addr) (c : Nat) (L ks got : List It) (gone dup : Bool) (w : World) (k : Nat) (idx : Value) (wr : World) : Prop :=
  ∃ i : Nat, idx = .int .i64 (i : Int) ∧ i + k = n ∧ Pqs wr b m p c L (eraseAll ks (got.take i)) gone dup ∧ w.grownBy wr (some m)

set_option maxRecDepth 100000 in
set_option maxHeartbeats 1000000 in
theorem del_any (r b m : Nat) (p : Option Addr) (c : Nat) (L ks got : List It) (gone dup : Bool) (v : Value) (w : World) (hr : One w r 41 (.pointer (some ⟨b, 0, none⟩))) (H : Pqs w b m p c L ks gone dup) (hv : Sl w v (itvs got)) (hm : ∀ a n c, v = .slice (some a) n c → a.block ≠ m) (h9 : got.length ≤ 100000) :
    Calls Tryd.prog 26 #[v, .pointer (some ⟨r, 0, none⟩)] w fun e w' => e = .returned (.tuple #[]) ∧ Pqs w' b m p c L (eraseAll ks got) gone dup ∧ w.grownBy w' (some m) := by
  obtain ⟨a, n, cap, rfl, hla, hc, hmx, hr2⟩ := hv
  rw [itvs_len] at hla
  have hn9 : n ≤ 100000 := by omega
  have HL := Lib.hid hla
  have HS := Lib.hid H
  have HR := Lib.hid hr
  have hrm : r ≠ m := by
    intro e
    subst e
    obtain ⟨es, cl, hm, _⟩ := H.v
    unfold One at hr
    rw [hm] at hr
    cases hr
  have HRM := Lib.hid hrm
  clear hla H hr hrm
  go_enter Tryd.func26, Tryd.ntmps26
  go_wp2_with fail
  go_loopg [7] n (fun k idx wr => DelLoop n b m p c L ks got gone dup w k idx wr)
  case atStart => exact ⟨0, rfl, by omega, by simpa [eraseAll] using HS.out, gb_refl _ _⟩
  case round =>
    obtain ⟨i, rfl, hik, hpq, hgr⟩ := hrel
    have HQ := Lib.hid hpq
    have HG := Lib.hid hgr
    have hro : wr.cell? ⟨r, 0, none⟩ = some (.pointer (some ⟨b, 0, none⟩)) := hgr.cell HR.out.cell (fun e => HRM.out (by injection e))
    have hmp : wr.cell? ⟨b, 1, none⟩ = some (.map (some m)) := hpq.q.blk.cell 1 rfl
    clear hpq hgr
    by_cases hi : i < n
    · cases gk with
      | zero => omega
      | succ k =>
        obtain ⟨b1, o1, rfl, hcell⟩ := hr2 (by omega)
        have h1 := hcell i _ (itvs_at got i (by rw [HL.out]; exact hi))
        have h1b := HG.out.cell h1 (fun e => hm _ _ _ rfl (by injection e))
        have ht : got.take (i + 1) = got.take i ++ [got.getD i dI] := by
          have := take_snoc_getD (got.take (i + 1)) i (by rw [List.length_take, HL.out]; omega)
          rw [List.take_take, Nat.min_eq_left (by omega)] at this
          rw [this]
          congr 2
          rw [List.getD_eq_getElem?_getD, List.getElem?_take_of_lt (by omega), ← List.getD_eq_getElem?_getD]
        obtain ⟨X, hX⟩ : ∃ X, got.getD i dI = X := ⟨_, rfl⟩
        rw [hX] at ht h1b
        have HTK := Lib.hid ht
        clear hr2 hcell hX ht h1 hm
        go_wp2_with (at_delete; refine wpList_vdel _ rfl _ _ 51 64 rfl 69 KPQ Tryd.underlying51 m _ rfl HQ.out.v X rfl ?_; intro w1 hvm ht1)
        go_roundg k
        case measure => omega
        case rel =>
          refine ⟨i + 1, by go_num, by omega, ⟨HQ.out.q.grown ht1.grown (fun j e => ?_), ?_, HQ.out.ne⟩, gb_step HG.out ht1.grown (fun k e => .inl e.symm)⟩
          · injection e with e
            subst e
            exact ⟨HQ.out.ne, HQ.out.g⟩
          · rw [HTK.out, eraseAll_snoc, ← setp_del]
            exact hvm
    · obtain rfl : i = n := by omega
      have hd : decide ((i : Int) < (i : Int)) = false := by simp
      have hfin : got.take i = got := List.take_of_length_le (by rw [HL.out]; exact Nat.le_refl _)
      have HF := Lib.hid hfin
      clear hfin hm
      go_wp2_with fail
      go_end0
      have hs := HQ.out
      rw [HF.out] at hs
      exact ⟨rfl, hs, HG.out⟩

theorem Pqs.below {w w' : World} {b m : Nat} {p : Option Addr} {c : Nat} {L ks : List It} {gone dup : Bool} (H : Pqs w b m p c L ks gone dup) (hb : Below w.heap.size w w') : Pqs w' b m p c L ks gone dup := ⟨H.q.below hb, H.v.below hb H.v.lt, H.ne⟩
theorem Pqs.fr {w w' : World} {b m : Nat} {p p' : Option Addr} {c c' : Nat} {L L' ks : List It} {gone dup : Bool} (H : Pqs w b m p c L ks gone dup) (hq : Pq w' b m p' c' L' gone dup) (hf : PqFr b b (obk p) (obk p') w w') : Pqs w' b m p' c' L' ks gone dup := ⟨hq, H.v.fr hf H.ne H.g, H.ne⟩

set_option maxRecDepth 100000 in
set_option maxHeartbeats 1000000 in
theorem Get_any (b m : Nat) (p : Option Addr) (c : Nat) (L ks : List It) (dup : Bool) (N : Nat) (w : World) (H : Pqs w b m p c L ks false dup) (hh : Heap L) (h9 : L.length ≤ 100000) (hN0 : 1 ≤ N) (hN : N ≤ 1000) :
    Calls Tryd.prog 21 #[.pointer (some ⟨b, 0, none⟩), .int .i64 (N : Int)] w fun e w' => ∃ (pa : Option Addr) (ca : Nat) (got L' : List It), e = .returned (.tuple #[.slice pa got.length ca, .nilIface]) ∧
      w'.ownsRow w.heap.size 64 1 (.slice pa got.length ca) got.length (itvs got) ∧ Pqs w' b m p c L' (eraseAll ks got) false dup ∧ Heap L' ∧ Takes L got L' ∧ got.length = min N L.length ∧ PqFr b m (obk p) (obk p) w w' := by
  have hw1 : Below w.heap.size w (w.alloc (.cells #[.pointer (some ⟨b, 0, none⟩)] 41)) := (Below.refl _ _).alloc (Nat.le_refl _) _
  have H1 := H.below hw1
  have HC := Lib.hid (get_any b m p c L false dup N _ H1.q hh h9 hN)
  have HS := Lib.hid H
  have HS1 := Lib.hid H1
  have HW1 := Lib.hid hw1
  have hlt : decide ((N : Int) < 1) = false := by simp; omega
  have c2 : (w.alloc (.cells #[.pointer (some ⟨b, 0, none⟩)] 41)).cell? ⟨b, 2, none⟩ = some (.bool false) := H1.q.blk.cell 2 rfl
  clear H hh H1 hw1
  go_enter Tryd.func21, Tryd.ntmps21
  go_wp2_with fail
  refine HC.out.mono ?_
  rintro e w2 ⟨pa, ca, got, L', rfl, hown, hq2, hh2, htk, hlen, hfr⟩
  have HB := Lib.hid ((One.new w 41 (.pointer (some ⟨b, 0, none⟩))).fr hfr (by have := HS.out.q.blk.lt; omega) (fun e => by have := (own_lt HS.out.q).2 _ e; omega))
  have hr0 := HB.out.cell
  have hs2 : Pqs w2 b m p c L' ks false dup := HS1.out.fr hq2 hfr
  have hsl := Sl.of_owns hown
  have hne : ∀ a n c, (Value.slice pa got.length ca) = .slice (some a) n c → a.block ≠ m := by
    intro a n c e e2
    injection e with e3 _ _
    subst e3
    rcases hown.2 with ⟨e4, _⟩ | ⟨g, cap, cur, e4, _, hg, _⟩
    · injection e4 with e4 _ _
      cases e4
    · injection e4 with e4 _ _
      injection e4 with e4
      subst e4
      obtain ⟨es, cl, hm, _⟩ := hs2.v
      simp only at e2
      rw [← e2] at hm
      rw [hg] at hm
      cases hm
  have HD := Lib.hid (del_any w.heap.size b m p c L' ks got false dup (.slice pa got.length ca) w2 HB.out hs2 hsl hne (by have := takes_len htk; omega))
  have hg9 : got.length ≤ 100000 := by have := takes_len htk; omega
  have HO := Lib.hid hown
  have HH2 := Lib.hid hh2
  have HT := Lib.hid htk
  have HLN := Lib.hid hlen
  have HF := Lib.hid hfr
  obtain ⟨ng, hng⟩ : ∃ ng, got.length = ng := ⟨_, rfl⟩
  rw [hng] at HD HO
  have HNG := Lib.hid hng
  rw [hng]
  clear hown hq2 hh2 htk hlen hfr hs2 hsl hne hng hg9 hr0 c2
  go_wp2_with fail
  refine HD.out.mono ?_
  rintro e w3 ⟨rfl, hq3, hg3⟩
  have HQ3 := Lib.hid hq3
  have HG3 := Lib.hid hg3
  clear hq3 hg3
  go_wp2_with fail
  go_ret2
  refine ⟨pa, ca, got, L', by rw [HNG.out]; rfl, ?_, HQ3.out, HH2.out, HT.out, HLN.out, ?_⟩
  · rw [HNG.out]
    have ho := HO.out.kept HG3.out (by
      rcases HO.out.2 with ⟨e4, _⟩ | ⟨g, cap, cur, e4, _, hg, _⟩
      · left; rw [e4]; rfl
      · right
        rw [e4]
        intro e5
        have e6 : g = m := by injection e5
        subst e6
        obtain ⟨es, cl, hm, _⟩ := (HS1.out.v.fr HF.out HS1.out.ne HS1.out.g)
        rw [hg] at hm
        cases hm)
    exact rowp_weaken ho (by simp)
  · have f1 : PqFr b m (obk p) (obk p) w w2 := (PqFr.of_below HW1.out).trans HF.out.weaken
    exact f1.trans ⟨HG3.out.os, HG3.out.tape, HG3.out.output, HG3.out.size, fun k hk _ h2 _ => HG3.out.block k hk (fun e => h2 (by injection e)), fun k hk => .inl hk⟩
end Go.Proofs.YtepjailijekepaaDoor
