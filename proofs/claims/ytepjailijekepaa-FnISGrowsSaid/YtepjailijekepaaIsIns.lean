/- Walks of Int64Slice's Insert and impl.ISInsert. -/
import Derived.Test.YtepjailijekepaaIsSearch
import Derived.Test.YtepjailijekepaaCopyIn
import Derived.IntWalk
namespace Go.Proofs.Ytepjailijekepaa
set_option linter.unusedVariables false
open Go.RowKit

/-- a sorted list with a number, which is not put twice -/
def insI (x : Int) (xs : List Int) : List Int := if x ∈ xs then xs else xs.take (Ism.less x xs) ++ x :: xs.drop (Ism.less x xs)

theorem insI_len (x : Int) (xs : List Int) : (insI x xs).length ≤ xs.length + 1 := by
  unfold insI; split
  · omega
  · have h : Ism.less x xs ≤ xs.length := List.countP_le_length
    simp; omega

set_option maxHeartbeats 1000000 in
theorem insert_any (B : Nat) (a : Option Addr) (n cap : Nat) (xs : List Int) (x : Int) (w : World) (hown : w.ownsRow B 2 1 (.slice a n cap) n (xs.map (Value.int .i64))) (hB : B ≤ w.heap.size) (hn : xs.length ≤ 100000) (hs : Ordered xs) :
    Calls Try.prog 25 #[.slice a n cap, .int .i64 x] w fun e w' => ∃ v', e = .returned v' ∧ Sl w' v' ((insI x xs).map (Value.int .i64)) ∧ Below B w w' := by
  have hsl := Sl.of_owns hown
  have hl := len_map xs _ _ hsl.length
  have hn2 : n ≤ 100000 := by omega
  have HL := Lib.hid hl
  have HV := Lib.hid hsl
  have HW := Lib.hid hown
  clear hsl hl hown
  go_enter Try.func25, Try.ntmps25
  go_wp2_with fail
  refine (search_any _ xs x _ HV.out (by omega) hs).mono ?_
  rintro e w1 ⟨r, rfl, ⟨h1, h2, h3⟩, hb⟩
  have hb' := hb.mono hB
  have hm := Ism.mem_at x xs r h2 hs h3
  have hls := Ism.less_split x xs r h1 h2 h3
  rw [HL.out] at h1 hm
  have own1 : w1.ownsRow B 2 1 (.slice a n cap) n (xs.map (Value.int .i64)) := by
    refine ⟨HW.out.1, ?_⟩
    rcases HW.out.2 with h0 | ⟨g, cap, cur, e, hbg, hg, rest⟩
    · exact .inl h0
    · exact .inr ⟨g, cap, cur, e, hbg, (hb.block g (Array.getElem?_eq_some_iff.1 hg).1).trans hg, rest⟩
  have OW := Lib.hid own1
  have HR := Lib.hid hls
  have hsz1 := hb.size
  clear h2 h3 own1 hls
  by_cases hr : r = n
  · have hni : ¬ x ∈ xs := fun h => by have := (hm.1 h).1; omega
    have HN := Lib.hid hni
    subst hr
    clear hm hni
    go_wp2_with (at_builtin; refine wpList_append1 rfl _ _ 49 rfl B 2 (.int .i64 0) 8 Try.underlying49 info_i64 rfl _ r _ rfl OW.out (.int .i64 x) rfl rfl (by unfold maxLen; omega) (by omega) (by omega) ?_; intro g2 cap2 w2 own2 hg2 hb2)
    go_ret
    refine ⟨_, rfl, ?_, hb'.trans hb2⟩
    have := Sl.of_owns own2
    unfold insI
    rw [if_neg HN.out, HR.out, List.take_of_length_le (by rw [HL.out]; exact Nat.le_refl _), List.drop_of_length_le (by rw [HL.out]; exact Nat.le_refl _)]
    simpa using this
  · have hrn : r < n := by omega
    have hne : ((r : Int) == (n : Int)) = false := by simp; omega
    obtain ⟨a', n', cap', e, hl, hc, hmx, hrr⟩ := HV.out
    simp only [Value.slice.injEq] at e
    obtain ⟨rfl, rfl, rfl⟩ := e
    obtain ⟨b, off, rfl, hcell⟩ := hrr (by omega)
    have h := hcell r _ (map_at xs _ r (by rw [HL.out]; exact hrn))
    rw [← hb.cell (World.block_lt_of_cell? w _ h)] at h
    obtain ⟨X, hX⟩ : ∃ X, xs.getD r 0 = X := ⟨_, rfl⟩
    rw [hX] at h hm
    clear hcell hrr hl hX hr
    by_cases hx : X = x
    · have hi : x ∈ xs := hm.2 ⟨hrn, hx⟩
      have HI := Lib.hid hi
      subst hx
      clear hm hi
      go_wp2_with fail
      go_ret
      refine ⟨_, rfl, ?_, hb'⟩
      unfold insI
      rw [if_pos HI.out]
      exact Sl.of_owns OW.out
    · have hni : ¬ x ∈ xs := fun h => hx (hm.1 h).2
      have HN := Lib.hid hni
      have hxx : (X == x) = false := by simpa using hx
      clear hm hni hx
      go_wp2_with (at_builtin; refine wpList_append1 rfl _ _ 49 rfl B 2 (.int .i64 0) 8 Try.underlying49 info_i64 rfl _ n _ rfl OW.out (.int .i64 0) rfl rfl (by unfold maxLen; omega) (by omega) (by omega) ?_; intro g2 cap2 w2 own2 hg2 hb2)
      obtain ⟨hcap⟩ : Nonempty (n + 1 ≤ cap2) := by
        rcases own2.2 with ⟨e, _⟩ | ⟨g', cap', cur, e, _, _, hc1, _⟩
        · simp at e
        · injection e with e1 e2 e3; subst e3; exact ⟨hc1⟩
      have O2 := Lib.hid own2
      clear own2
      go_wp2_with fail
      have f1 : r + 1 ≤ cap2 := by omega
      have f2 : ¬ cap2 = r + 1 := by omega
      have f3 : ¬ cap2 = r := by omega
      have f4 : (r : Int) + 1 ≤ (cap2 : Int) := by omega
      have f5 : (r : Int) ≤ (cap2 : Int) := by omega
      have f6 : (0 : Int) ≤ (r : Int) := by omega
      have f7 : (0 : Int) ≤ (r : Int) + 1 := by omega
      have f8 : IntKind.i64.wrap ((r : Int) + 1) = (r : Int) + 1 := IntWalk.i64_in _ (by omega)
      have f9 : ((r : Int) + 1).toNat = r + 1 := by omega
      have f10 : r ≤ n + 1 := by omega
      have f11 : (r : Int) + 1 ≤ ((n + 1 : Nat) : Int) := by omega
      have f12 : (r : Int) ≤ ((n + 1 : Nat) : Int) := by omega
      have f14 : (r : Int) + 1 ≤ (n : Int) + 1 := by omega
      have f15 : (r : Int) ≤ (n : Int) + 1 := by omega
      have f16 : (r : Int) ≤ (n : Int) := by omega
      have f13 : r ≤ n := by omega
      have hone : ∀ u ∈ xs.map (Value.int .i64) ++ [.int .i64 0], u.oneCell' = true := fun u hu => by
        rcases List.mem_append.1 hu with h | h
        · exact one_cells _ _ u h
        · rw [List.mem_singleton.1 h]; rfl
      have HO := Lib.hid hone
      clear hone
      go_region_law ((refine step_copyIn rfl _ _ 49 49 rfl B 2 (.int .i64 0) 8 Try.underlying49 info_i64 g2 (n + 1) cap2 _ O2.out HO.out (r + 1) r (by omega) (by omega) (some ⟨g2, r + 1, none⟩) (some ⟨g2, r, none⟩) (n - r) (n + 1 - r) (cap2 - (r + 1)) (cap2 - r) (by go_simp) (by go_simp) (by omega) (by omega) (fun _ => rfl) (fun _ => rfl) ?_; intro w3 own3 hg3 hb3))
      all_goals
        have hst := own3.stored r (.int .i64 x)
        have hfz := own3.frozenAt r
        have hlen3 := own3.1
        rw [Nat.mul_one] at hlen3
        have hce : ∃ u, w3.cell? ⟨g2, r, none⟩ = some u := by
          obtain ⟨u, hu⟩ : ∃ u, (moved (xs.map (Value.int .i64) ++ [.int .i64 0]) (r + 1) r)[r]? = some u := ⟨_, List.getElem?_eq_getElem (by rw [hlen3]; omega)⟩
          have := own3.cells (g := g2) rfl r u hu
          rw [addr_add, Nat.zero_add] at this
          exact ⟨u, this⟩
        obtain ⟨u, hce⟩ := hce
        have hmi : (moved (xs.map (Value.int .i64) ++ [.int .i64 0]) (r + 1) r).set r (.int .i64 x) = (insI x xs).map (Value.int .i64) := by
          rw [moved_ins _ _ _ _ (by rw [List.length_map, HL.out]; exact hrn)]
          unfold insI
          rw [if_neg HN.out, HR.out]
          simp
        rw [hmi] at hst
        have HS := Lib.hid hst
        clear hst hmi hlen3
        go_wp2_with fail
        go_ret
        exact ⟨_, rfl, Sl.of_owns HS.out.1, (((hb'.trans hb2).drew.trans hb3)).setCell ((O2.out.lt g2 rfl).1) _⟩

set_option maxHeartbeats 400000 in
theorem is_insert_any (v : Value) (xs : List Int) (x : Int) (w : World) (hv : Sl w v (xs.map (Value.int .i64))) (hn : xs.length ≤ 100000) (hs : Ordered xs) :
    Calls Try.prog 7 #[v, .int .i64 x] w fun e w' => ∃ v', e = .returned v' ∧ Sl w' v' ((insI x xs).map (Value.int .i64)) ∧ Below w.heap.size w w' := by
  have hvv : ∃ a n cap, v = .slice a n cap := by obtain ⟨a, n, cap, rfl, _⟩ := hv; exact ⟨a, n, cap, rfl⟩
  obtain ⟨a, n, cap, rfl⟩ := hvv
  have HV := Lib.hid hv
  clear hv
  go_enter Try.func7, Try.ntmps7
  go_wp2_with fail
  refine (ints_any _ xs _ HV.out (by omega)).mono ?_
  rintro e w1 ⟨v', rfl, hown, hb1⟩
  have hsl := Sl.of_owns hown
  have hvv : ∃ a n cap, v' = .slice a n cap := by obtain ⟨a, n, cap, rfl, _⟩ := hsl; exact ⟨a, n, cap, rfl⟩
  obtain ⟨a', n', cap', rfl⟩ := hvv
  have hl := len_map xs _ _ hsl.length
  rw [hl] at hown
  have HO := Lib.hid hown
  clear hown hsl hl
  go_wp2_with fail
  refine (insert_any w.heap.size _ _ _ xs x _ HO.out hb1.size hn hs).mono ?_
  rintro e w2 ⟨v2, rfl, hs2, hb2⟩
  go_wp2_with fail
  go_ret
  exact ⟨_, rfl, hs2, hb1.trans hb2⟩
end Go.Proofs.Ytepjailijekepaa
