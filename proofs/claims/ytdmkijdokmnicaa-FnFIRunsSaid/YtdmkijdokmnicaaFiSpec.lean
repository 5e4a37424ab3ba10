/- spec.FIRun. -/
import Derived.Test.YtdmkijdokmnicaaFiRun
import Derived.Test.YtdmkijdokmnicaaApRow
import Derived.Test.YtdmkijdokmnicaaStep
import Derived.Deep.RegionLaw
import Derived.BigQuiet
import Derived.Laws.OwnMore
import Derived.OneCell
namespace Go.Proofs.Ytdmkijdokmnicaa
set_option linter.unusedVariables false
open Go.RowKit

theorem info_pair : (Try.prog.info? 58).map (fun i => (i.zero, i.size, i.bytes)) = some (some (.agg #[.int .u64 0, .int .u64 0]), 2, 16) := by kernel_rfl
def pairRow (p : Int × Value) : List Value := [.int .u64 p.1, p.2]
def flatP (L : FMap) : List Value := (L.map pairRow).flatten
theorem pair2 (L : FMap) : ∀ r ∈ L.map pairRow, r.length = 2 := fun r hr => by
  obtain ⟨p, _, rfl⟩ := List.mem_map.1 hr
  rfl
theorem flatP_app (xs ys : FMap) : flatP (xs ++ ys) = flatP xs ++ flatP ys := by simp [flatP]
theorem flatP_at {L : FMap} {j : Nat} {p : Int × Value} (h : L[j]? = some p) : (flatP L)[j * 2]? = some (.int .u64 p.1) ∧ (flatP L)[j * 2 + 1]? = some p.2 := by
  have hr : (L.map pairRow)[j]? = some (pairRow p) := by simp [h]
  exact ⟨flatten_at 2 _ (pair2 L) j 0 _ _ hr rfl, flatten_at 2 _ (pair2 L) j 1 _ _ hr rfl⟩
theorem flatP_len (L : FMap) : (flatP L).length = L.length * 2 := by
  unfold flatP
  rw [flatten_len 2 _ (pair2 L), List.length_map]
theorem flatP_set {u : Value} {k : Int} : ∀ {L : FMap} {j : Nat} {u0 : Value}, L[j]? = some (k, u0) → (flatP L).set (j * 2 + 1) u = flatP (L.set j (k, u)) := by
  intro L
  induction L with
  | nil => intro j u0 h; simp at h
  | cons x r ih =>
    intro j u0 h
    cases j with
    | zero =>
      simp at h
      subst h
      simp [flatP, pairRow]
    | succ j =>
      simp at h
      have := ih h
      simp only [flatP, List.map_cons, List.flatten_cons, List.set_cons_succ] at this ⊢
      rw [show (j + 1) * 2 + 1 = j * 2 + 1 + 2 by omega]
      simp [pairRow, this]
/-- the pairs: one of each key, whole numbers -/
def PairsOk (L : FMap) : Prop := (Vm.keys L).Nodup ∧ ∀ p ∈ L, ∃ v, p.2 = .int .u64 v
theorem ok_next {s : FMap × Nat} (x : FStep) (h : PairsOk s.1) : PairsOk (fiNext s x).1 := by
  unfold fiNext
  split
  · refine ⟨Vm.nodup_put h.1, fun p hp => ?_⟩
    obtain ⟨a, u⟩ := p
    have hg := Vm.mem_get (Vm.nodup_put h.1) hp
    rw [Vm.get_put] at hg
    split at hg
    · injection hg with hg; exact ⟨_, hg.symm⟩
    · exact h.2 _ (Vm.get_mem hg)
  · split
    · exact ⟨Vm.nodup_del h.1, fun p hp => h.2 p ((Vm.del_sub _ _).subset hp)⟩
    · exact h
theorem ok_st (xs : List FStep) : PairsOk (fiSt xs).1 := by
  suffices ∀ s : FMap × Nat, PairsOk s.1 → PairsOk (xs.foldl fiNext s).1 from this _ ⟨by simp [Vm.keys], by simp⟩
  induction xs with
  | nil => exact fun s h => h
  | cons x r ih => exact fun s h => ih _ (ok_next x h)
theorem len_next (s : FMap × Nat) (x : FStep) : (fiNext s x).1.length ≤ s.1.length + 1 := by
  unfold fiNext
  split
  · have h1 : ∀ l : FMap, l.length = (Vm.keys l).length := fun l => by simp [Vm.keys]
    simp only
    rw [h1, Vm.keys_put, h1 s.1]
    by_cases h : x.key ∈ Vm.keys s.1
    · rw [if_pos h]; omega
    · rw [if_neg h]; simp
  · split
    · have := (Vm.del_sub x.key s.1).length_le
      simp only
      omega
    · omega
theorem len_st (xs : List FStep) (i : Nat) (h : i ≤ xs.length) : (fiSt (xs.take i)).1.length ≤ i := by
  induction i with
  | zero => simp [fiSt]
  | succ i ih =>
    rw [fi_take xs i (by omega)]
    exact Nat.le_trans (len_next _ _) (by have := ih (by omega); omega)
/-- what spec.FIRun answers -/
def spAns (L : FMap) (x : FStep) : Int × Bool :=
  if x.op = 2 then (valOf (Vm.get x.key L), (Vm.get x.key L).isSome)
  else if x.op = 3 then (0, (Vm.get x.key L).isSome)
  else if x.op = 5 then ((L.length : Int), false)
  else (0, false)
def spAt (xs : List FStep) (j : Nat) : Int × Bool := spAns (fiSt (xs.take j)).1 (fstepAt xs j)
def spAll (xs : List FStep) (i : Nat) : List (Int × Bool) := (List.range i).map (spAt xs)
theorem spAll_succ (xs : List FStep) (i : Nat) : spAll xs (i + 1) = spAll xs i ++ [spAt xs i] := by simp [spAll, List.range_succ]

theorem row_blw {w w' : World} {B : Nat} {e : TypeId} {size : Nat} {v : Value} {n : Nat} {xs : List Value} (h : w.ownsRow B e size v n xs) (hb : Below w.heap.size w w') : w'.ownsRow B e size v n xs := by
  refine ⟨h.1, ?_⟩
  rcases h.2 with h0 | ⟨g, cap, cur, rfl, h3, h4, h5⟩
  · exact .inl h0
  · exact .inr ⟨g, cap, cur, rfl, h3, (hb.block g (Array.getElem?_eq_some_iff.1 h4).1).trans h4, h5⟩
def PRow (w : World) (Z : Nat) (v : Value) (L : FMap) : Prop := ∃ p c, v = .slice p L.length c ∧ w.ownsRow Z 58 2 v L.length (flatP L)
def SpLoop (xs : List FStep) (n : Nat) (w : World) (k : Nat) (ls out idx : Value) (wr : World) : Prop :=
  ∃ (i : Nat) (p : Option Addr) (cap : Nat), idx = .int .i64 (i : Int) ∧ out = .slice p i cap ∧ i + k = n ∧ wr.ownsRow w.heap.size 31 2 (.slice p i cap) i ((spAll xs i).map ansRow).flatten ∧
    PRow wr w.heap.size ls (fiSt (xs.take i)).1 ∧ Below w.heap.size w wr
/-- behind the search: j is the key's place, or the end -/
def FoundAt (L : FMap) (key : Int) (j : Nat) : Prop := j ≤ L.length ∧ ∀ t p, t < j → L[t]? = some p → p.1 ≠ key
def SpCut (Z A : Nat) (L' : FMap) (a : Int × Bool) (out : Value) (n : Nat) (os : List Value) (w : World) (ls : Value) (wx : World) : Prop :=
  PRow wx Z ls L' ∧ Blk wx A 31 #[.int .u64 a.1, .bool a.2] ∧ wx.ownsRow Z 31 2 out n os ∧ Below Z w wx

theorem SpCut.mk' {Z A : Nat} {L' : FMap} {a : Int × Bool} {out : Value} {n : Nat} {os : List Value} {w wx : World} {p : Option Addr} {m c : Nat} (hL : L'.length = m) (h1 : wx.ownsRow Z 58 2 (.slice p m c) m (flatP L'))
    (h2 : Blk wx A 31 #[.int .u64 a.1, .bool a.2]) (h3 : wx.ownsRow Z 31 2 out n os) (h4 : Below Z w wx) : SpCut Z A L' a out n os w (.slice p m c) wx := by
  subst hL
  exact ⟨⟨p, c, rfl, h1⟩, h2, h3, h4⟩
theorem found_has {L : FMap} {key : Int} {j : Nat} {u : Value} (hok : PairsOk L) (h : L[j]? = some (key, u)) : Vm.get key L = some u ∧ (∀ v, Vm.put key v L = L.set j (key, v)) ∧ Vm.del key L = L.eraseIdx j := Vm.here hok.1 h
theorem found_not {L : FMap} {key : Int} {m : Nat} (hm : L.length = m) (h : FoundAt L key m) : Vm.get key L = none ∧ (∀ v, Vm.put key v L = L ++ [(key, v)]) ∧ Vm.del key L = L := Vm.absent fun hk => by
  obtain ⟨⟨a, u⟩, hp, rfl⟩ := List.mem_map.1 hk
  obtain ⟨t, ht, he⟩ := List.getElem_of_mem hp
  exact h.2 t _ (by omega) (by rw [List.getElem?_eq_getElem ht, he]) rfl
theorem mem_take_flat {L : List (List Value)} {j : Nat} {u : Value} (h : u ∈ (L.take j).flatten) : u ∈ L.flatten := by
  obtain ⟨r, hr, hu⟩ := List.mem_flatten.1 h
  exact List.mem_flatten.2 ⟨r, List.mem_of_mem_take hr, hu⟩
theorem mem_drop_flat {L : List (List Value)} {j : Nat} {u : Value} (h : u ∈ (L.drop j).flatten) : u ∈ L.flatten := by
  obtain ⟨r, hr, hu⟩ := List.mem_flatten.1 h
  exact List.mem_flatten.2 ⟨r, List.mem_of_mem_drop hr, hu⟩
theorem own_len2 {w : World} {B : Nat} {e : TypeId} {size : Nat} {p : Option Addr} {m cap n : Nat} {xs : List Value} (h : w.ownsRow B e size (.slice p m cap) n xs) : m = n := by
  rcases h.2 with ⟨e, h0⟩ | ⟨g, c, cur, e, _⟩
  · injection e with e1 e2 e3; omega
  · injection e with e1 e2 e3
theorem row_weak2 {w : World} {B B' : Nat} {e : TypeId} {size : Nat} {v : Value} {n : Nat} {xs : List Value} (h : w.ownsRow B e size v n xs) (hB : B' ≤ B) : w.ownsRow B' e size v n xs := by
  refine ⟨h.1, ?_⟩
  rcases h.2 with h0 | ⟨g, cap, cur, rfl, h3, h4, h5⟩
  · exact .inl h0
  · exact .inr ⟨g, cap, cur, rfl, Nat.le_trans hB h3, h4, h5⟩
theorem flatP_erase (L : FMap) (j : Nat) : flatP (L.eraseIdx j) = ((L.map pairRow).take j).flatten ++ ((L.map pairRow).drop (j + 1)).flatten := by
  unfold flatP
  rw [List.eraseIdx_eq_take_drop_succ, List.map_append, List.flatten_append, List.map_take, List.map_drop]
theorem row_ne2 {w : World} {B B' : Nat} {e e' : TypeId} {z z' : Nat} {v v' : Value} {n n' : Nat} {xs xs' : List Value} (h1 : w.ownsRow B e z v n xs) (h2 : w.ownsRow B' e' z' v' n' xs') (he : e ≠ e') : v.ownBlock = none ∨ v.ownBlock ≠ v'.ownBlock := by
  rcases h1.2 with ⟨rfl, _⟩ | ⟨g, cap, cur, rfl, _, hg, _⟩
  · exact .inl rfl
  · refine .inr fun hb => ?_
    rcases h2.2 with ⟨rfl, _⟩ | ⟨g2, cap2, cur2, rfl, _, hg2, _⟩
    · cases hb
    · simp [Value.ownBlock] at hb
      subst hb
      rw [hg] at hg2
      injection hg2 with hg2
      injection hg2 with _ hg2
      exact he hg2
theorem row_ne {w : World} {B B' : Nat} {e e' : TypeId} {z z' : Nat} {v : Value} {n n' g m c : Nat} {xs xs' : List Value} (h1 : w.ownsRow B e z v n xs) (h2 : w.ownsRow B' e' z' (.slice (some ⟨g, 0, none⟩) m c) n' xs') (he : e ≠ e') : v.ownBlock ≠ some g := by
  rcases h2.2 with ⟨h0, _⟩ | ⟨g', cap', cur', e2, _, hh2, _⟩
  · cases h0
  · injection e2 with e2
    injection e2 with e2
    injection e2 with e2
    subst e2
    rcases h1.2 with ⟨rfl, _⟩ | ⟨g1, cap, cur, rfl, _, hh, _⟩
    · simp [Value.ownBlock]
    · intro e1
      simp [Value.ownBlock] at e1
      subst e1
      rw [hh] at hh2
      injection hh2 with hh2
      injection hh2 with _ hh2
      exact he hh2

set_option maxRecDepth 100000 in
set_option maxHeartbeats 8000000 in
theorem fispec_any (u : Value) (xs : List FStep) (n : Nat) (w : World) (hu : Rw 3 w u (xs.map stepRow)) (hn : xs.length = n) (hn9 : n ≤ 2000) :
    Calls Try.prog 8 #[u] w fun e w' => ∃ v', e = .returned v' ∧ Rw 2 w' v' ((spAll xs n).map ansRow) ∧ Below w.heap.size w w' := by
  obtain ⟨ua, un, uc, rfl, hul, huc, hum, hur⟩ := hu
  rw [List.length_map, hn] at hul
  subst hul
  have HUR := Lib.hid hur
  have HN := Lib.hid hn
  clear hur hn huc hum
  have hni : (n : Int) ≤ 2000 := by omega
  go_enter Try.func8, Try.ntmps8
  go_wp2_with fail
  go_loopg [3, 4, 5, 6, 7, 8, 9] n (fun k ls out idx _ _ _ _ wr => SpLoop xs n w k ls out idx wr)
  case atStart => exact ⟨0, none, 0, rfl, rfl, by omega, World.ownsRow_nil _ _ _ _, ⟨none, 0, rfl, World.ownsRow_nil _ _ _ _⟩, Below.refl _ _⟩
  case round =>
    obtain ⟨i, p, cap, rfl, rfl, hik, hown, ⟨lp, lc, rfl, hls⟩, hbl⟩ := hrel
    have HO := Lib.hid hown
    have HL := Lib.hid hls
    have HBL := Lib.hid hbl
    have hsz := hbl.size
    clear hown hls
    cases gk with
    | zero =>
      obtain rfl : i = n := by omega
      have hd : decide ((i : Int) < (i : Int)) = false := by simp
      clear hbl
      go_wp2_with fail
      go_ret
      refine ⟨_, rfl, Rw.of_owns (S := 2) (fun r hr => ?_) (by decide) HO.out, HBL.out⟩
      obtain ⟨a, _, rfl⟩ := List.mem_map.1 hr
      rfl
    | succ k =>
      have hi : i < n := by omega
      obtain ⟨b1, o1, rfl, hcell⟩ := HUR.out (by omega)
      have hil : i < xs.length := by rw [HN.out]; exact hi
      have hrow := steprow_at xs i hil
      have q0 := hcell i _ hrow 0 _ rfl
      have q1 := hcell i _ hrow 1 _ rfl
      have q2 := hcell i _ hrow 2 _ rfl
      rw [← hbl.cell (World.block_lt_of_cell? w _ q0)] at q0
      rw [← hbl.cell (World.block_lt_of_cell? w _ q1)] at q1
      rw [← hbl.cell (World.block_lt_of_cell? w _ q2)] at q2
      have htk := fi_take xs i hil
      have hL := len_st xs i (by omega)
      have hok := ok_st (xs.take i)
      have hsp : spAt xs i = spAns (fiSt (xs.take i)).1 (fstepAt xs i) := rfl
      obtain ⟨x, hx⟩ : ∃ x, fstepAt xs i = x := ⟨_, rfl⟩
      rw [hx] at q0 q1 q2 htk hsp
      have HTK := Lib.hid htk
      have HSP := Lib.hid hsp
      obtain ⟨op, key, val⟩ := x
      simp only at q0 q1 q2
      rw [Nat.add_zero] at q0
      rw [← Nat.add_assoc] at q1 q2
      obtain ⟨st, hst⟩ : ∃ st, fiSt (xs.take i) = st := ⟨_, rfl⟩
      rw [hst] at HTK HL hL hok HSP ⊢
      obtain ⟨L, c⟩ := st
      have HOK := Lib.hid hok
      clear hcell hil hrow htk hx hst hbl hok hsp
      have hii : (i : Int) < (n : Int) := by omega
      have hi0 : (0 : Int) ≤ (i : Int) := by omega
      simp only at HL hL HTK HSP HOK ⊢
      have hb0 : Below wr.heap.size wr (wr.alloc (.cells #[.int .i64 op, .int .u64 key, .int .u64 val] 27)) := (Below.refl _ _).alloc (Nat.le_refl _) _
      have hS0 : Blk (wr.alloc (.cells #[.int .i64 op, .int .u64 key, .int .u64 val] 27)) wr.heap.size 27 #[.int .i64 op, .int .u64 key, .int .u64 val] := Blk.new wr _ _
      have HB0 := Lib.hid hb0
      have HS0 := Lib.hid hS0
      have HL0 := Lib.hid (HL.out.alloc (.cells #[.int .i64 op, .int .u64 key, .int .u64 val] 27))
      clear hb0 hS0
      obtain ⟨m, hm⟩ : ∃ m, L.length = m := ⟨_, rfl⟩
      have HM := Lib.hid hm
      rw [hm] at HL hL HL0 ⊢
      have hmi : (m : Int) ≤ 2000 := by omega
      clear hm
      go_upto_block 2 with fail
      obtain ⟨W, hW⟩ : ∃ W, W = (wr.alloc (.cells #[.int .i64 op, .int .u64 key, .int .u64 val] 27)) := ⟨_, rfl⟩
      rw [← hW] at HB0 HS0 HL0 ⊢
      clear hW
      obtain ⟨A0, hA0⟩ : ∃ A0, A0 = wr.heap.size := ⟨_, rfl⟩
      rw [← hA0] at HS0 ⊢
      have HA0 := Lib.hid hA0
      clear hA0
      go_cut [7] (fun idx wx => ∃ j : Nat, idx = .int .i64 (j : Int) ∧ FoundAt L key j ∧ (j = m ∨ ∃ v, L[j]? = some (key, .int .u64 v)) ∧ Below W.heap.size W wx)
      case first =>
        go_wp2_with fail
        go_loopg [7] m (fun k idx wx => ∃ j : Nat, idx = .int .i64 (j : Int) ∧ j + k = m ∧ FoundAt L key j ∧ Below W.heap.size W wx)
        case atStart => exact ⟨0, rfl, by omega, ⟨Nat.zero_le _, fun t p ht => by omega⟩, Below.refl _ _⟩
        case round =>
          obtain ⟨j, rfl, hjk, hfa, hbW⟩ := hrel
          have HFA := Lib.hid hfa
          have HBW := Lib.hid hbW
          have HL1 := Lib.hid (row_blw HL0.out hbW)
          have HS1 := Lib.hid (HS0.out.below hbW HS0.out.lt)
          clear hfa hbW
          cases gk with
          | zero =>
            obtain rfl : j = m := by omega
            have hd : decide ((j : Int) < (j : Int)) = false := by simp
            go_wp2_with fail
            go_quiet (fail)
            go_wp2_with fail
            go_meet
            exact ⟨_, rfl, HFA.out, .inl rfl, HBW.out.trans ⟨rfl, rfl, rfl, Nat.le_refl _, fun _ _ => rfl⟩⟩
          | succ k' =>
            have hjm : (j : Int) < (m : Int) := by omega
            have hj0 : (0 : Int) ≤ (j : Int) := by omega
            obtain ⟨⟨kk, vv⟩, hLj⟩ : ∃ p, L[j]? = some p := ⟨L[j]'(by have := HM.out; omega), List.getElem?_eq_getElem _⟩
            obtain ⟨v, rfl⟩ := HOK.out.2 _ (List.mem_of_getElem? hLj)
            obtain ⟨g, c9, rfl, rfl⟩ : ∃ g c9, lp = some ⟨g, 0, none⟩ ∧ lc = c9 := by
              rcases HL1.out.2 with ⟨_, h0⟩ | ⟨g, c9, cur, e, _⟩
              · omega
              · injection e with e1 e2 e3
                exact ⟨g, c9, e1, e3⟩
            have hc := flatP_at hLj
            have c0 := (HL1.out.cellAt (j * 2) (by omega)).trans hc.1
            have s1 := HS1.out.cell 1 rfl
            simp only at c0
            by_cases hk : kk = key
            · have hd : (kk != key) = false := by simpa using hk
              have HK := Lib.hid hk
              have HJ := Lib.hid hLj
              clear hk hLj hc
              go_wp2_with fail
              go_quiet (fail)
              go_wp2_with fail
              go_meet
              exact ⟨_, rfl, HFA.out, .inr ⟨v, by rw [HJ.out, HK.out]⟩, HBW.out.trans ⟨rfl, rfl, rfl, Nat.le_refl _, fun _ _ => rfl⟩⟩
            · have hd : (kk != key) = true := by simpa using hk
              have HK := Lib.hid hk
              have HJ := Lib.hid hLj
              clear hk hLj hc
              go_wp2_with fail
              go_quiet (fail)
              go_wp2_with fail
              go_roundg k'
              case measure => omega
              case rel =>
                refine ⟨j + 1, by go_num, by omega, ⟨by have := HM.out; omega, fun t p ht hp => ?_⟩, HBW.out.trans ⟨rfl, rfl, rfl, Nat.le_refl _, fun _ _ => rfl⟩⟩
                by_cases htj : t = j
                · subst htj
                  rw [HJ.out] at hp
                  injection hp with hp
                  subst hp
                  exact HK.out
                · exact HFA.out.2 t p (by omega) hp
      case rest =>
        obtain ⟨j, rfl, hfa, hj, hbW⟩ := hcut
        have HFA := Lib.hid hfa
        have hjm : j ≤ m := by have := hfa.1; have := HM.out; omega
        have HLc := row_blw HL0.out hbW
        have HSc := HS0.out.below hbW HS0.out.lt
        have HOc := row_blw (row_blw HO.out HB0.out) hbW
        have hszc : w.heap.size ≤ wc.heap.size := Nat.le_trans hsz (Nat.le_trans HB0.out.size hbW.size)
        have hb1 : Below wc.heap.size wc (wc.alloc (.cells #[.int .u64 0, .bool false] 31)) := (Below.refl _ _).alloc (Nat.le_refl _) _
        have HB1 := Lib.hid (((HBL.out.trans (HB0.out.mono hsz)).trans (hbW.mono (Nat.le_trans hsz HB0.out.size))).trans (hb1.mono hszc))
        have HL1 := Lib.hid (row_blw HLc hb1)
        have HS1 := Lib.hid (HSc.below hb1 HSc.lt)
        have HO1 := Lib.hid (row_blw HOc hb1)
        have HA1 : Hid (Blk (wc.alloc (.cells #[.int .u64 0, .bool false] 31)) wc.heap.size 31 #[.int .u64 0, .bool false]) := Lib.hid (Blk.new wc _ _)
        have hji : (j : Int) ≤ 2000 := by omega
        have s0 : wc.cell? ⟨A0, 0, none⟩ = some (.int .i64 op) := HSc.cell 0 rfl
        have hnO : (Value.slice p i cap).ownBlock ≠ some wc.heap.size := fun e => by have := (HOc.lt _ e).2; omega
        have hlt0 : A0 < wc.heap.size := HSc.lt
        clear hfa HLc HSc HOc hb1 hbW HL0 HS0 HO HL HB0 HBL q0 q1 q2
        go_upto_block 4 with fail
        obtain ⟨W1, hW1⟩ : ∃ W1, W1 = (wc.alloc (.cells #[.int .u64 0, .bool false] 31)) := ⟨_, rfl⟩
        rw [← hW1] at HB1 HS1 HL1 HO1 HA1 ⊢
        clear hW1
        obtain ⟨A1, hA1⟩ : ∃ A1, A1 = wc.heap.size := ⟨_, rfl⟩
        rw [← hA1] at HA1 hnO ⊢
        have HAZ : Hid (w.heap.size ≤ A1) := Lib.hid (by omega)
        clear hA1
        go_cut [3, 8] (fun ls _ wx => SpCut w.heap.size A1 (fiNext (L, c) ⟨op, key, val⟩).1 (spAns L ⟨op, key, val⟩) (.slice p i cap) i ((spAll xs i).map ansRow).flatten w ls wx)
        case first =>
          have s1 : W1.cell? ⟨A0, 1, none⟩ = some (.int .u64 key) := HS1.out.cell 1 rfl
          have s2 : W1.cell? ⟨A0, 2, none⟩ = some (.int .u64 val) := HS1.out.cell 2 rfl
          have a0 : W1.cell? ⟨A1, 0, none⟩ = some (.int .u64 0) := HA1.out.cell 0 rfl
          have a1 : W1.cell? ⟨A1, 1, none⟩ = some (.bool false) := HA1.out.cell 1 rfl
          have fa0 := HA1.out.free 0
          have fa1 := HA1.out.free 1
          have hnL := row_blk HL1.out HA1.out (by decide)
          rcases hj with rfl | ⟨v, hLj⟩
          · obtain ⟨hg, hp, hdl⟩ := found_not HM.out HFA.out
            have HG := Lib.hid hg
            have HP := Lib.hid hp
            have HD := Lib.hid hdl
            clear hg hp hdl
            have hd : decide (j < j) = false := by simp
            have hmx : j + 1 ≤ maxLen := by unfold maxLen; omega
            have hz1 := HB1.out.size
            by_cases ho1 : op = 1
            · subst ho1
              go_wp2_with (at_builtin; refine wpList_appendS rfl _ _ 56 rfl w.heap.size 2 58 (.agg #[.int .u64 0, .int .u64 0]) 16 Try.underlying56 info_pair rfl (by decide) _ j _ rfl HL1.out #[.int .u64 key, .int .u64 val] rfl rfl (by simp [Value.oneCell']) hmx (by omega) hz1 ?_; intro g9 cap9 w9 hown9 hg9 hb9)
              go_meet
              refine SpCut.mk' (by simp [fiNext, HP.out, HM.out]) ?_ ?_ ?_ (HB1.out.trans hb9)
              · simpa [fiNext, HP.out, flatP_app, flatP, pairRow] using hown9
              · simpa [spAns] using HA1.out.grown hg9 hnL
              · exact HO1.out.kept hg9 (row_ne2 HO1.out HL1.out (by decide))
            · have hn1 : (op == 1) = false := by simpa using ho1
              by_cases ho2 : op = 2
              · subst ho2
                go_wp2_with fail
                go_meet
                refine SpCut.mk' (by simp [fiNext, HM.out]) ?_ ?_ ?_ (HB1.out.setCell HAZ.out _)
                · simpa [fiNext] using ownsRow_setCell_other HL1.out hnL _
                · simpa [spAns, HG.out, valOf] using HA1.out.set 1 (.bool false)
                · exact ownsRow_setCell_other HO1.out hnO _
              · have hn2 : (op == 2) = false := by simpa using ho2
                by_cases ho3 : op = 3
                · subst ho3
                  go_wp2_with fail
                  go_meet
                  refine SpCut.mk' (by simp [fiNext, HM.out]) ?_ ?_ ?_ (HB1.out.setCell HAZ.out _)
                  · simpa [fiNext] using ownsRow_setCell_other HL1.out hnL _
                  · simpa [spAns, HG.out] using HA1.out.set 1 (.bool false)
                  · exact ownsRow_setCell_other HO1.out hnO _
                · have hn3 : (op == 3) = false := by simpa using ho3
                  by_cases ho4 : op = 4
                  · subst ho4
                    go_wp2_with fail
                    go_meet
                    refine SpCut.mk' (by simp [fiNext, HD.out, HM.out]) ?_ ?_ HO1.out HB1.out
                    · simpa [fiNext, HD.out] using HL1.out
                    · simpa [spAns] using HA1.out
                  · have hn4 : (op == 4) = false := by simpa using ho4
                    by_cases ho5 : op = 5
                    · subst ho5
                      go_wp2_with fail
                      go_meet
                      refine SpCut.mk' (by simp [fiNext, HM.out]) ?_ ?_ ?_ (HB1.out.setCell HAZ.out _)
                      · simpa [fiNext] using ownsRow_setCell_other HL1.out hnL _
                      · simpa [spAns, HM.out] using HA1.out.set 0 (.int .u64 (j : Int))
                      · exact ownsRow_setCell_other HO1.out hnO _
                    · have hn5 : (op == 5) = false := by simpa using ho5
                      go_wp2_with fail
                      go_meet
                      refine SpCut.mk' (by simp [fiNext, HM.out, ho1, ho4]) ?_ ?_ HO1.out HB1.out
                      · simpa [fiNext, ho1, ho4] using HL1.out
                      · simpa [spAns, ho1, ho2, ho3, ho4, ho5] using HA1.out
          · obtain ⟨hg, hp, hdl⟩ := found_has HOK.out hLj
            have HG := Lib.hid hg
            have HP := Lib.hid hp
            have HD := Lib.hid hdl
            have HJ := Lib.hid hLj
            have hjl : j < m := by
              have := (List.getElem?_eq_some_iff.1 hLj).1
              have := HM.out
              omega
            have hc := flatP_at hLj
            clear hg hp hdl hLj
            have hd : decide (j < m) = true := by simpa using hjl
            have hjm2 : (j : Int) < (m : Int) := by omega
            have hj0 : (0 : Int) ≤ (j : Int) := by omega
            have hmx : m + 1 ≤ maxLen := by unfold maxLen; omega
            have hz1 := HB1.out.size
            obtain ⟨g, c9, rfl, rfl⟩ : ∃ g c9, lp = some ⟨g, 0, none⟩ ∧ lc = c9 := by
              rcases HL1.out.2 with ⟨_, h0⟩ | ⟨g, c9, cur, e, _⟩
              · omega
              · injection e with e1 e2 e3
                exact ⟨g, c9, e1, e3⟩
            have c1 : W1.cell? ⟨g, j * 2 + 1, none⟩ = some (.int .u64 v) := (HL1.out.cellAt (j * 2 + 1) (by omega)).trans hc.2
            have f1 := HL1.out.frozenAt (j * 2 + 1)
            have hgz : w.heap.size ≤ g := (HL1.out.lt g rfl).1
            have hnL' : A1 ≠ g := fun e => hnL (by rw [e]; rfl)
            have hnOL : (Value.slice p i cap).ownBlock ≠ some g := row_ne HO1.out HL1.out (by decide)
            clear hc
            by_cases ho1 : op = 1
            · subst ho1
              go_wp2_with fail
              go_meet
              obtain ⟨r1, r2⟩ := HL1.out.stored (j * 2 + 1) (.int .u64 val)
              refine SpCut.mk' (by simp [fiNext, HP.out, HM.out]) ?_ ?_ ?_ (HB1.out.setCell hgz _)
              · rw [flatP_set HJ.out] at r1
                simpa [fiNext, HP.out] using r1
              · simpa [spAns] using HA1.out.other hnL' (.int .u64 val)
              · exact ownsRow_setCell_other HO1.out hnOL _
            · have hn1 : (op == 1) = false := by simpa using ho1
              by_cases ho2 : op = 2
              · subst ho2
                go_wp2_with fail
                go_meet
                refine SpCut.mk' (by simp [fiNext, HM.out]) ?_ ?_ ?_ ((HB1.out.setCell HAZ.out _).setCell HAZ.out _)
                · simpa [fiNext] using ownsRow_setCell_other (ownsRow_setCell_other HL1.out hnL _) hnL _
                · simpa [spAns, HG.out, valOf] using (HA1.out.set 1 (.bool true)).set 0 (.int .u64 v)
                · exact ownsRow_setCell_other (ownsRow_setCell_other HO1.out hnO _) hnO _
              · have hn2 : (op == 2) = false := by simpa using ho2
                by_cases ho3 : op = 3
                · subst ho3
                  go_wp2_with fail
                  go_meet
                  refine SpCut.mk' (by simp [fiNext, HM.out]) ?_ ?_ ?_ (HB1.out.setCell HAZ.out _)
                  · simpa [fiNext] using ownsRow_setCell_other HL1.out hnL _
                  · simpa [spAns, HG.out] using HA1.out.set 1 (.bool true)
                  · exact ownsRow_setCell_other HO1.out hnO _
                · have hn3 : (op == 3) = false := by simpa using ho3
                  by_cases ho4 : op = 4
                  · subst ho4
                    have hrw := Rw.of_owns (pair2 L) (by decide) HL1.out
                    have hRA : ∀ wx, Below W1.heap.size W1 wx → Rw 2 wx (.slice (some ⟨g, 0, none⟩) j lc) ((L.map pairRow).take j) := fun wx hb => by
                      obtain ⟨_, _, _, e, _, e2, e3, _⟩ := id hrw
                      injection e with e4 e5 e6
                      have := (hrw.below rfl hb).part 0 j lc (Nat.zero_le _) (by omega) (by omega) (by omega)
                      simpa using this
                    obtain ⟨j1, hj1⟩ : ∃ j1, j1 = j + 1 := ⟨_, rfl⟩
                    obtain ⟨a2, ha2⟩ : ∃ a2 : Option Addr, (if lc = j1 then some (⟨g, 0, none⟩ : Addr) else some ⟨g, j1 * 2, none⟩) = a2 := ⟨_, rfl⟩
                    have hRB : ∀ wx, Below W1.heap.size W1 wx → Rw 2 wx (.slice a2 (m - j1) (lc - j1)) ((L.map pairRow).drop j1) := fun wx hb => by
                      obtain ⟨_, _, _, e, hml, e2, e3, _⟩ := id hrw
                      injection e with e4 e5 e6
                      rw [← ha2]
                      by_cases hlc : lc = j1
                      · rw [if_pos hlc]
                        have h0 : m - j1 = 0 := by omega
                        rw [h0]
                        exact ⟨_, _, _, rfl, by rw [List.length_drop]; omega, Nat.zero_le _, by omega, fun h => absurd h (Nat.lt_irrefl _)⟩
                      · rw [if_neg hlc]
                        have := (hrw.below rfl hb).part j1 m (lc - j1) (by omega) (by omega) (by omega) (by omega)
                        rw [Nat.zero_add, List.take_of_length_le (by rw [List.length_drop]; omega)] at this
                        exact this
                    have hmlc : m ≤ lc := by
                      obtain ⟨_, _, _, e, _, e2, e3, _⟩ := id hrw
                      injection e with e4 e5 e6
                      omega
                    have hjlc : j ≤ lc := by omega
                    have hjlc1 : j1 ≤ m := by omega
                    have hlen : (L.map pairRow).length = m := by rw [List.length_map]; exact HM.out
                    have hta : ((L.map pairRow).take j).length = j := by rw [List.length_take]; omega
                    have htb : ((L.map pairRow).drop j1).length = m - j1 := by rw [List.length_drop]; omega
                    have hone : ∀ u ∈ (L.map pairRow).flatten, u.oneCell' = true := fun u hu => by
                      obtain ⟨r, hr, hu⟩ := List.mem_flatten.1 hu
                      obtain ⟨q, hq, rfl⟩ := List.mem_map.1 hr
                      obtain ⟨v, hv⟩ := HOK.out.2 q hq
                      simp only [pairRow, hv, List.mem_cons, List.not_mem_nil, or_false] at hu
                      rcases hu with rfl | rfl <;> rfl
                    have hj1m : (j1 : Int) ≤ (m : Int) := by omega
                    have hw1 : IntKind.i64.wrap ((j : Int) + 1) = (j1 : Int) := by rw [hj1]; unfold IntKind.wrap; simp [IntKind.bits, IntKind.signed]; omega
                    have hj10 : (0 : Int) ≤ (j1 : Int) := by omega
                    have HJ1 := Lib.hid hj1
                    clear hj1
                    have HONE := Lib.hid hone
                    have HTA := Lib.hid hta
                    have HTB := Lib.hid htb
                    have HLEN := Lib.hid hlen
                    clear hlen hta htb hone
                    have HRA := Lib.hid hRA
                    have HRB := Lib.hid hRB
                    clear hRA hRB hrw
                    go_wp2_with fail
                    go_region_law
                      (first
                        | (refine step_apRw (by rfl) (.tmp 78) (.tmp 81) 56 (by rfl) W1.heap.size 2 58 (.agg #[.int .u64 0, .int .u64 0]) 16 Try.underlying56 info_pair rfl (by decide) (.slice (some ⟨W1.heap.size, 0, none⟩) 0 0) 0 [] (by rfl) ?_ (.slice (some ⟨g, 0, none⟩) j lc) ((L.map pairRow).take j) (by rfl) (HRA.out _ ?_) ?_ ?_ ?_ ?_ ?_ ?_
                           focus (first | exact World.ownsRow_lit W1 #[] 0 (Nat.le_refl _) (Nat.zero_le _) rfl | exact row_drew (World.ownsRow_lit W1 #[] 0 (Nat.le_refl _) (Nat.zero_le _) rfl); done)
                           focus ((repeat (first | with_reducible exact Below.refl _ _ | with_reducible refine Below.drew ?_ | with_reducible exact (Below.refl _ _).alloc (Nat.le_refl _) _)); done)
                           focus (exact fun r hr => pair2 L r (List.mem_of_mem_take hr); done)
                           focus (exact fun u hu => HONE.out u (mem_take_flat hu); done)
                           focus (rw [HTA.out]; (try unfold maxLen); omega; done)
                           focus (rw [HTA.out]; (try unfold maxLen); omega; done)
                           focus (refine Below.size (B := W1.heap.size) (w := W1) ?_; (repeat (first | with_reducible exact Below.refl _ _ | with_reducible refine Below.drew ?_ | with_reducible exact (Below.refl _ _).alloc (Nat.le_refl _) _)); done)
                           intro p9 m9 c9 w9 hown9 hg9 hb9
                           have HO9 := Lib.hid hown9
                           have HB9 : Hid (Below W1.heap.size W1 w9) := Lib.hid (Below.trans (by (repeat (first | with_reducible exact Below.refl _ _ | with_reducible refine Below.drew ?_ | with_reducible exact (Below.refl _ _).alloc (Nat.le_refl _) _))) hb9)
                           clear hown9 hg9 hb9)
                        | (refine step_apRw (by rfl) (.tmp 82) (.tmp 86) 56 (by rfl) W1.heap.size 2 58 (.agg #[.int .u64 0, .int .u64 0]) 16 Try.underlying56 info_pair rfl (by decide) (.slice p9 m9 c9) (0 + ((L.map pairRow).take j).length) ([] ++ ((L.map pairRow).take j).flatten) (by rfl) ?_ (.slice a2 (m - j1) (lc - j1)) ((L.map pairRow).drop j1) (by rfl) (HRB.out _ ?_) ?_ ?_ ?_ ?_ ?_ ?_
                           focus (first | exact HO9.out | exact row_drew HO9.out; done)
                           focus ((repeat (first | with_reducible exact Below.refl _ _ | with_reducible exact HB9.out | with_reducible refine Below.drew ?_ | with_reducible exact (Below.refl _ _).alloc (Nat.le_refl _) _)); done)
                           focus (exact fun r hr => pair2 L r (List.mem_of_mem_drop hr); done)
                           focus (exact fun u hu => HONE.out u (mem_drop_flat hu); done)
                           focus (rw [HTA.out, HTB.out]; (try unfold maxLen); omega; done)
                           focus (rw [HTA.out, HTB.out]; (try unfold maxLen); omega; done)
                           focus (refine Below.size (B := W1.heap.size) (w := W1) ?_; (repeat (first | with_reducible exact Below.refl _ _ | with_reducible exact HB9.out | with_reducible refine Below.drew ?_ | with_reducible exact (Below.refl _ _).alloc (Nat.le_refl _) _)); done)
                           intro p10 m10 c10 w10 hown10 hg10 hb10
                           have HO10 := Lib.hid hown10
                           have HB10 : Hid (Below W1.heap.size W1 w10) := Lib.hid (Below.trans (by (repeat (first | with_reducible exact Below.refl _ _ | with_reducible exact HB9.out | with_reducible refine Below.drew ?_ | with_reducible exact (Below.refl _ _).alloc (Nat.le_refl _) _))) hb10)
                           clear hown10 hg10 hb10)
                        | fail)
                    all_goals
                      go_wp2_with fail
                      go_meet
                      have hm10 := own_len2 HO10.out
                      have hE := flatP_erase L j
                      have hEl : (L.eraseIdx j).length = m10 := by
                        rw [List.length_eraseIdx, if_pos (by rw [HM.out]; exact hjl), hm10, HTA.out, HTB.out, HM.out]
                        have := HJ1.out
                        omega
                      have hL' : (fiNext (L, c) ⟨4, key, val⟩).1 = L.eraseIdx j := by simp [fiNext, HD.out]
                      rw [hL']
                      refine SpCut.mk' hEl ?_ ?_ ?_ ?_
                      · have hx := HO10.out
                        rw [HJ1.out, List.nil_append, ← hE] at hx
                        rw [show 0 + ((L.map pairRow).take j).length + ((L.map pairRow).drop (j + 1)).length = m10 by rw [hm10, HJ1.out]] at hx
                        exact row_weak2 hx hz1
                      · simpa [spAns] using HA1.out.below HB10.out HA1.out.lt
                      · exact row_blw HO1.out HB10.out
                      · exact HB1.out.trans (HB10.out.mono hz1)
                  · have hn4 : (op == 4) = false := by simpa using ho4
                    by_cases ho5 : op = 5
                    · subst ho5
                      go_wp2_with fail
                      go_meet
                      refine SpCut.mk' (by simp [fiNext, HM.out]) ?_ ?_ ?_ (HB1.out.setCell HAZ.out _)
                      · simpa [fiNext] using ownsRow_setCell_other HL1.out hnL _
                      · simpa [spAns, HM.out] using HA1.out.set 0 (.int .u64 (m : Int))
                      · exact ownsRow_setCell_other HO1.out hnO _
                    · have hn5 : (op == 5) = false := by simpa using ho5
                      go_wp2_with fail
                      go_meet
                      refine SpCut.mk' (by simp [fiNext, HM.out, ho1, ho4]) ?_ ?_ HO1.out HB1.out
                      · simpa [fiNext, ho1, ho4] using HL1.out
                      · simpa [spAns, ho1, ho2, ho3, ho4, ho5] using HA1.out
        case rest =>
          obtain ⟨⟨lp2, lc2, rfl, hls⟩, hbk, ho, hb⟩ := hcut
          have r0 := hbk.cell 0 rfl
          have r1 := hbk.cell 1 rfl
          obtain ⟨⟨an, ab⟩, han⟩ : ∃ a, spAns L ⟨op, key, val⟩ = a := ⟨_, rfl⟩
          rw [han] at r0 r1
          have r0 : wc.cell? ⟨A1, 0, none⟩ = some (.int .u64 an) := r0
          have r1 : wc.cell? ⟨A1, 1, none⟩ = some (.bool ab) := r1
          have HAN := Lib.hid (HSP.out.trans han)
          have HLS := Lib.hid hls
          have HO2 := Lib.hid ho
          have HB2 := Lib.hid hb
          have hszc2 := hb.size
          have hmx : i + 1 ≤ maxLen := by unfold maxLen; omega
          have hob := row_ne2 hls ho (by decide)
          have HOB := Lib.hid hob
          clear hls ho hb hbk han hob hj s0
          go_wp2_with (at_builtin; refine wpList_appendS rfl _ _ 28 rfl w.heap.size 2 31 (.agg #[.int .u64 0, .bool false]) 16 Try.underlying28 info_ans rfl (by decide) _ i _ rfl HO2.out #[.int .u64 an, .bool ab] rfl rfl (by simp [Value.oneCell']) hmx (by omega) hszc2 ?_; intro g9 cap9 w9 hown9 hg9 hb9)
          go_roundg k
          case measure => omega
          case rel =>
            refine ⟨i + 1, some ⟨g9, 0, none⟩, cap9, by go_num, rfl, by omega, ?_, ⟨lp2, lc2, ?_, ?_⟩, HB2.out.trans hb9⟩
            · rw [spAll_succ, HAN.out]
              simpa [ansRow] using hown9
            · rw [HTK.out]
            · rw [HTK.out]
              exact HLS.out.kept hg9 HOB.out
end Go.Proofs.Ytdmkijdokmnicaa
