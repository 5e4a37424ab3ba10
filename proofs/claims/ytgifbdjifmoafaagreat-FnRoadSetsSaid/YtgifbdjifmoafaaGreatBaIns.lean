/- Walks of uintSlice's insert and deleteAtIndex, blocks' insert and deleteAtIndex: a slice in a cell of a block is turned. -/
import Derived.Test.YtgifbdjifmoafaaGreatBaSearch
import Derived.Test.YtgifbdjifmoafaaGreatBaWords
import Derived.Test.YtgifbdjifmoafaaGreatCopyIn
import Derived.Test.YtgifbdjifmoafaaGreatFr
import Derived.Outline
namespace Go.Proofs.YtgifbdjifmoafaaGreat
set_option linter.unusedVariables false
open Go.RowKit Bam

theorem info_blk : (Tryz.prog.info? 87).map (fun i => (i.zero, i.size, i.bytes)) = some (some (.int .u64 0), 1, 8) := by kernel_rfl

theorem Ue.to {e : TypeId} {w : World} {v : Value} {S : List Nat} {n : Nat} (h : Ue e w v S) (hn : n = S.length) : w.ownsRow 0 e 1 v n (u64s S) := by subst hn; exact h

/-- a list with one more at a place -/
def insAt (S : List Nat) (r x : Nat) : List Nat := S.take r ++ x :: S.drop r
theorem insAt_len (S : List Nat) (r x : Nat) : (insAt S r x).length = S.length + 1 := by
  unfold insAt; simp [List.length_take, List.length_drop]; omega
theorem u64s_insAt (S : List Nat) (r x : Nat) : u64s (insAt S r x) = (u64s S).take r ++ .int .u64 (x : Int) :: (u64s S).drop r := by
  simp [insAt, u64s, List.map_take, List.map_drop]

theorem fr_store_other (w : World) (p o : Nat) (u : Value) : Fr [p] [p] w (w.setCell ⟨p, o, none⟩ u) := Fr.store w (a := ⟨p, o, none⟩) (List.mem_singleton.2 rfl) u

set_option maxHeartbeats 2000000 in
theorem uinsert_end (p o : Nat) (T : TypeId) (cs : Array Value) (a : Option Addr) (n cap : Nat) (S : List Nat) (x r : Nat) (w : World) (hb : Blk w p T cs) (ho : cs[o]? = some (.slice a n cap)) (hT : 25 ≠ T)
    (hown : Us w (.slice a n cap) S) (hN : n = S.length) (hn : n ≤ 100000) (hs : Asc S) (hR : sAt S x = r) (hr : r = n) :
    Calls Tryz.prog 133 #[.pointer (some ⟨p, o, none⟩), .int .u64 (x : Int)] w fun e w' => e = .returned (.tuple #[.int .i64 (r : Int), .bool true]) ∧
      ∃ a' cap', Us w' (.slice a' (n + 1) cap') (insAt S r x) ∧ Blk w' p T (cs.setIfInBounds o (.slice a' (n + 1) cap')) ∧ Fr (p :: obl (.slice a n cap)) (p :: obl (.slice a' (n + 1) cap')) w w' := by
  have h0 : w.cell? ⟨p, o, none⟩ = some (.slice a n cap) := hb.cell o ho
  have hne : (Value.slice a n cap).ownBlock ≠ some p := row_blk hown hb hT
  have hle := sAt_le S x
  have hse := search_any _ S x w hown (by omega) hs
  rw [← hN] at hle
  rw [hR] at hse hle
  have HN := Lib.hid hN
  have HB := Lib.hid hb
  have HO := Lib.hid ho
  have HW := Lib.hid hown
  have HS := Lib.hid hse
  have HNE := Lib.hid hne
  clear hb ho hown hse hN hR hne
  subst hr
  go_enter Tryz.func133, Tryz.ntmps133
  go_wp2_with fail
  refine HS.out.mono ?_
  rintro e w1 ⟨rfl, hb1⟩
  have hbk1 := HB.out.below hb1 HB.out.lt
  have hw1 := HW.out.below hb1 rfl
  have hf1 := hbk1.free o
  have h01 : w1.cell? ⟨p, o, none⟩ = some (.slice a r cap) := hbk1.cell o HO.out
  have HB1 := Lib.hid hbk1
  have HW1 := Lib.hid hw1
  have HF1 : Hid (Fr (p :: obl (.slice a r cap)) (p :: obl (.slice a r cap)) w w1) := Lib.hid (Fr.of_below _ hb1)
  have hown1 : w1.ownsRow 0 25 1 (.slice a r cap) r (u64s S) := hw1.to HN.out
  have HO1 := Lib.hid hown1
  clear hb1 hbk1 hw1 hown1 h0
  go_wp2_with (at_builtin; refine wpList_append1A rfl _ _ 109 rfl 0 25 (.int .u64 0) 8 Tryz.underlying109 info_u64 rfl _ r _ rfl HO1.out (.int .u64 (x : Int)) rfl rfl (by unfold maxLen; omega) (by omega) (Nat.zero_le _) ?_; intro g2 cap2 w2 own2 fr2; have O2 := Lib.hid own2; have F2 := Lib.hid fr2; have hbk2 := F2.out.blk HB1.out (fun e => HNE.out (mem_obl.1 e)); have B2 := Lib.hid hbk2; have hf2 := hbk2.free o; have hc2 := hbk2.cell o HO.out; clear own2 fr2 hbk2)
  go_ret2
  have hpg : p ≠ g2 := fun e => row_blk O2.out B2.out hT (by rw [e]; rfl)
  refine ⟨rfl, some ⟨g2, 0, none⟩, cap2, ?_, B2.out.set o _, ?_⟩
  · have e : insAt S r x = S ++ [x] := by
      have h := HN.out
      unfold insAt
      rw [List.take_of_length_le (by omega), List.drop_of_length_le (by omega)]
    rw [e]
    have h := O2.out
    have e2 : u64s S ++ [.int .u64 (x : Int)] = u64s (S ++ [x]) := by simp [u64s]
    rw [e2] at h
    exact Us.of ((fr_store_other w2 p o _).own h (fun k hk => by rw [obl_some, List.mem_singleton] at hk; simp; omega))
  · exact (HF1.out.trans (Fr.weaken F2.out (fun k hk => List.mem_cons_of_mem _ hk) (fun k hk => by
      rcases List.mem_cons.1 hk with e | e
      · exact .inr (e ▸ List.mem_cons_self)
      · exact .inl e))).trans (Fr.store _ (a := ⟨p, o, none⟩) List.mem_cons_self _)

set_option maxHeartbeats 2000000 in
theorem uinsert_old (p o : Nat) (T : TypeId) (cs : Array Value) (a : Option Addr) (n cap : Nat) (S : List Nat) (x r : Nat) (w : World) (hb : Blk w p T cs) (ho : cs[o]? = some (.slice a n cap)) (hT : 25 ≠ T)
    (hown : Us w (.slice a n cap) S) (hN : n = S.length) (hn : n ≤ 100000) (hs : Asc S) (hR : sAt S x = r) (hr : r < n) (hx : S.getD r 0 = x) :
    Calls Tryz.prog 133 #[.pointer (some ⟨p, o, none⟩), .int .u64 (x : Int)] w fun e w' => e = .returned (.tuple #[.int .i64 (r : Int), .bool false]) ∧
      Below w.heap.size w w' := by
  have h0 : w.cell? ⟨p, o, none⟩ = some (.slice a n cap) := hb.cell o ho
  have hne : (Value.slice a n cap).ownBlock ≠ some p := row_blk hown hb hT
  have hle := sAt_le S x
  have hse := search_any _ S x w hown (by omega) hs
  rw [← hN] at hle
  rw [hR] at hse hle
  have HN := Lib.hid hN
  have HB := Lib.hid hb
  have HO := Lib.hid ho
  have HW := Lib.hid hown
  have HS := Lib.hid hse
  have HNE := Lib.hid hne
  clear hb ho hown hse hN hR hne
  go_enter Tryz.func133, Tryz.ntmps133
  go_wp2_with fail
  refine HS.out.mono ?_
  rintro e w1 ⟨rfl, hb1⟩
  have hbk1 := HB.out.below hb1 HB.out.lt
  have hw1 := HW.out.below hb1 rfl
  have hf1 := hbk1.free o
  have h01 : w1.cell? ⟨p, o, none⟩ = some (.slice a n cap) := hbk1.cell o HO.out
  have HB1 := Lib.hid hbk1
  have HW1 := Lib.hid hw1
  have HF1 := Lib.hid hb1
  have hown1 : w1.ownsRow 0 25 1 (.slice a n cap) n (u64s S) := hw1.to HN.out
  have HO1 := Lib.hid hown1
  clear hb1 hbk1 hw1 hown1 h0
  rcases HW1.out.cases with ⟨e, e2⟩ | ⟨g, cap', e, hg, hc1, hc2, hcell⟩
  · have := HN.out; rw [e2] at this; simp at this; omega
  · injection e with e1 e2 e3
    subst e1 e3
    have hcr := hcell r (by rw [← HN.out]; exact hr)
    rw [hx] at hcr
    have hne2 : ((r : Int) == (n : Int)) = false := by simp; omega
    clear hcell e2 hx hc1 hc2
    go_wp2_with fail
    go_ret2
    exact ⟨rfl, HF1.out⟩

set_option maxHeartbeats 2000000 in
theorem uinsert_new (p o : Nat) (T : TypeId) (cs : Array Value) (a : Option Addr) (n cap : Nat) (S : List Nat) (x r : Nat) (w : World) (hb : Blk w p T cs) (ho : cs[o]? = some (.slice a n cap)) (hT : 25 ≠ T)
    (hown : Us w (.slice a n cap) S) (hN : n = S.length) (hn : n ≤ 100000) (hs : Asc S) (hR : sAt S x = r) (hr : r < n) (hx : S.getD r 0 ≠ x) :
    Calls Tryz.prog 133 #[.pointer (some ⟨p, o, none⟩), .int .u64 (x : Int)] w fun e w' => e = .returned (.tuple #[.int .i64 (r : Int), .bool true]) ∧
      ∃ a' cap', Us w' (.slice a' (n + 1) cap') (insAt S r x) ∧ Blk w' p T (cs.setIfInBounds o (.slice a' (n + 1) cap')) ∧ Fr (p :: obl (.slice a n cap)) (p :: obl (.slice a' (n + 1) cap')) w w' := by
  have h0 : w.cell? ⟨p, o, none⟩ = some (.slice a n cap) := hb.cell o ho
  have hne : (Value.slice a n cap).ownBlock ≠ some p := row_blk hown hb hT
  have hle := sAt_le S x
  have hse := search_any _ S x w hown (by omega) hs
  rw [← hN] at hle
  rw [hR] at hse hle
  have HN := Lib.hid hN
  have HB := Lib.hid hb
  have HO := Lib.hid ho
  have HW := Lib.hid hown
  have HS := Lib.hid hse
  have HNE := Lib.hid hne
  clear hb ho hown hse hN hR hne
  go_enter Tryz.func133, Tryz.ntmps133
  go_wp2_with fail
  refine HS.out.mono ?_
  rintro e w1 ⟨rfl, hb1⟩
  have hbk1 := HB.out.below hb1 HB.out.lt
  have hw1 := HW.out.below hb1 rfl
  have hf1 := hbk1.free o
  have h01 : w1.cell? ⟨p, o, none⟩ = some (.slice a n cap) := hbk1.cell o HO.out
  have HB1 := Lib.hid hbk1
  have HW1 := Lib.hid hw1
  have HF1 : Hid (Fr (p :: obl (.slice a n cap)) (p :: obl (.slice a n cap)) w w1) := Lib.hid (Fr.of_below _ hb1)
  have hown1 : w1.ownsRow 0 25 1 (.slice a n cap) n (u64s S) := hw1.to HN.out
  have HO1 := Lib.hid hown1
  clear hb1 hbk1 hw1 hown1 h0
  rcases HW1.out.cases with ⟨e, e2⟩ | ⟨g, cap', e, hg, hc1, hc2, hcell⟩
  · have := HN.out; rw [e2] at this; simp at this; omega
  · injection e with e1 e2 e3
    subst e1 e3
    have hcr := hcell r (by rw [← HN.out]; exact hr)
    obtain ⟨X, hX⟩ : ∃ X, S.getD r 0 = X := ⟨_, rfl⟩
    rw [hX] at hcr hx
    have hne2 : ((r : Int) == (n : Int)) = false := by simp; omega
    have hxx : ((X : Int) == (x : Int)) = false := by simp; omega
    clear hcell e2 hx hX hc1 hc2
    go_wp2_with (at_builtin; refine wpList_append1A rfl _ _ 109 rfl 0 25 (.int .u64 0) 8 Tryz.underlying109 info_u64 rfl _ n _ rfl HO1.out (.int .u64 0) rfl rfl (by unfold maxLen; omega) (by omega) (Nat.zero_le _) ?_; intro g2 cap2 w2 own2 fr2; have O2 := Lib.hid own2; have F2 := Lib.hid fr2; have hbk2 := F2.out.blk HB1.out (fun e => HNE.out (mem_obl.1 e)); have B2 := Lib.hid hbk2; have hf2 := hbk2.free o; have hc2 := hbk2.cell o HO.out; clear own2 fr2 hbk2)
    have hpg : p ≠ g2 := fun e => row_blk O2.out B2.out hT (by rw [e]; rfl)
    have hcap : n + 1 ≤ cap2 := by
      rcases O2.out.2 with ⟨e, _⟩ | ⟨g', cap', cur, e, _, _, hc1, _⟩
      · simp at e
      · injection e with e1 e2 e3; subst e3; exact hc1
    obtain ⟨w3, hw3⟩ : ∃ w3, w2.setCell ⟨p, o, none⟩ (.slice (some ⟨g2, 0, none⟩) (n + 1) cap2) = w3 := ⟨_, rfl⟩
    have hB3 : Blk w3 p T (cs.setIfInBounds o (.slice (some ⟨g2, 0, none⟩) (n + 1) cap2)) := hw3 ▸ B2.out.set o _
    have ho3 : (cs.setIfInBounds o (.slice (some ⟨g2, 0, none⟩) (n + 1) cap2))[o]? = some (.slice (some ⟨g2, 0, none⟩) (n + 1) cap2) := by
      have := (Array.getElem?_eq_some_iff.1 HO.out).1
      simp [this]
    have hO3 : w3.ownsRow 0 25 1 (.slice (some ⟨g2, 0, none⟩) (n + 1) cap2) (n + 1) (u64s S ++ [.int .u64 0]) := hw3 ▸ (fr_store_other w2 p o _).own O2.out (fun k hk => by rw [obl_some, List.mem_singleton] at hk; simp; omega)
    have hF3 : Fr (p :: obl (.slice (some ⟨g, 0, none⟩) n cap)) [p, g2] w w3 := hw3 ▸ (HF1.out.trans (Fr.weaken F2.out (fun k hk => List.mem_cons_of_mem _ hk) (fun k hk => by
      rcases List.mem_cons.1 hk with e | e
      · exact .inr (e ▸ List.mem_cons_self)
      · exact .inl e))).trans (Fr.store _ (a := ⟨p, o, none⟩) List.mem_cons_self _)
    rw [hw3]
    have c3 := hB3.cell o ho3
    have HB3 := Lib.hid hB3
    have HO3 := Lib.hid ho3
    have HW3 := Lib.hid hO3
    have HF3 := Lib.hid hF3
    clear hw3 hB3 ho3 hO3 hF3 hc2 hf2
    have f1 : r + 1 ≤ cap2 := by omega
    have f2 : ¬ cap2 = r + 1 := by omega
    have f3 : ¬ cap2 = r := by omega
    have f4 : (r : Int) + 1 ≤ (cap2 : Int) := by omega
    have f5 : (r : Int) ≤ (cap2 : Int) := by omega
    have f6 : (0 : Int) ≤ (r : Int) := by omega
    have f7 : (0 : Int) ≤ (r : Int) + 1 := by omega
    have f8 : IntKind.i64.wrap ((r : Int) + 1) = (r : Int) + 1 := IntWalk.i64_in _ (by omega)
    have f9 : ((r : Int) + 1).toNat = r + 1 := by omega
    have f10 : r ≤ n + 1 := by omega
    have f14 : (r : Int) + 1 ≤ (n : Int) + 1 := by omega
    have f15 : (r : Int) ≤ (n : Int) + 1 := by omega
    have f16 : (r : Int) ≤ (n : Int) := by omega
    have hone : ∀ u ∈ u64s S ++ [.int .u64 0], u.oneCell' = true := fun u hu => by
      rcases List.mem_append.1 hu with h | h
      · exact u64s_one _ u h
      · rw [List.mem_singleton.1 h]; rfl
    have HONE := Lib.hid hone
    clear hone
    go_region_law ((refine step_copyIn (by rfl) (.tmp 48) (.tmp 53) 109 109 (by rfl) 0 25 (.int .u64 0) 8 Tryz.underlying109 info_u64 g2 (n + 1) cap2 (u64s S ++ [.int .u64 0]) (row_drew HW3.out) HONE.out (r + 1) r (by omega) (by omega) (some ⟨g2, r + 1, none⟩) (some ⟨g2, r, none⟩) (n - r) (n + 1 - r) (cap2 - (r + 1)) (cap2 - r) (by go_simp) (by go_simp) (by omega) (by omega) (fun _ => rfl) (fun _ => rfl) ?_; intro w4 own4 hg4 hb4))
    all_goals
      have hst := own4.stored r (.int .u64 (x : Int))
      have hfz := own4.frozenAt r
      have hlen4 := own4.1
      rw [Nat.mul_one] at hlen4
      have hce : ∃ u, w4.cell? ⟨g2, r, none⟩ = some u := by
        obtain ⟨u, hu⟩ : ∃ u, (moved (u64s S ++ [.int .u64 0]) (r + 1) r)[r]? = some u := ⟨_, List.getElem?_eq_getElem (by rw [hlen4]; omega)⟩
        have := own4.cells (g := g2) rfl r u hu
        rw [addr_add, Nat.zero_add] at this
        exact ⟨u, this⟩
      obtain ⟨u, hce⟩ := hce
      have hmi : (moved (u64s S ++ [.int .u64 0]) (r + 1) r).set r (.int .u64 (x : Int)) = u64s (insAt S r x) := by
        rw [moved_ins _ _ _ _ (by rw [u64s_len, ← HN.out]; exact hr), u64s_insAt]
      rw [hmi] at hst
      have hB4 : Blk w4 p T (cs.setIfInBounds o (.slice (some ⟨g2, 0, none⟩) (n + 1) cap2)) := (Fr.of_grown_same hg4).blk HB3.out (fun e => hpg (List.mem_singleton.1 e))
      have c4 := hB4.cell o HO3.out
      have HS4 := Lib.hid hst
      have HB4 := Lib.hid hB4
      have HG4 := Lib.hid (Fr.of_grown_same hg4)
      clear hst hmi hlen4 own4 hg4 hb4 hB4 c3
      go_wp2_with fail
      go_ret2
      refine ⟨rfl, some ⟨g2, 0, none⟩, cap2, Us.of HS4.out.1, HB4.out.other (a := ⟨g2, r, none⟩) hpg _, ?_⟩
      exact HF3.out.drew.trans ((Fr.weaken (G := [p, g2]) (G' := [p, g2]) HG4.out (fun k hk => List.mem_cons_of_mem _ hk) (fun k hk => .inr hk)).trans (Fr.store _ (a := ⟨g2, r, none⟩) (List.mem_cons_of_mem _ (List.mem_singleton.2 rfl)) _))
end Go.Proofs.YtgifbdjifmoafaaGreat
