/- Walk of laws.baMade for a sparse array: the steps that set its bits, and the reference's set. -/
import Derived.Test.YtgifbdjifmoafaaGreatBaPlays
namespace Go.Proofs.YtgifbdjifmoafaaGreat
set_option linter.unusedVariables false
open Go.RowKit Bam

def mk (on x : Nat) : Stp := ⟨3, on, 0, x % 1152921504606846976, 0, false⟩
def madeL (on : Nat) (ms : List Nat) : List Stp := first2 :: ms.map (mk on)
def madeP (ms : List Nat) (i : Nat) : Ps := (ms.take i).foldl (fun ps x => setB ps (x % 1152921504606846976)) []
theorem madeP_succ (ms : List Nat) (i : Nat) (h : i < ms.length) : madeP ms (i + 1) = setB (madeP ms i) (ms.getD i 0 % 1152921504606846976) := by
  unfold madeP
  rw [List.take_succ_eq_append_getElem h, List.foldl_append]
  simp [List.getD_eq_getElem?_getD, h]
theorem madeP_ok (ms : List Nat) : ∀ i, i ≤ ms.length → POk (madeP ms i) i ∧ ∀ q ∈ madeP ms i, q.1 < 18014398509481984
  | 0, _ => ⟨⟨Ok.nil, Nz.nil, Nat.le_refl _, fun q hq => by simp [madeP] at hq⟩, fun q hq => by simp [madeP] at hq⟩
  | i + 1, h => by
    obtain ⟨h1, h2⟩ := madeP_ok ms i (Nat.le_of_succ_le h)
    rw [madeP_succ ms i h]
    have hk : ms.getD i 0 % 1152921504606846976 / 64 < 18014398509481984 := by omega
    have h3 := setB_small h2 hk
    exact ⟨⟨(set_ok h1.ok _).1, set_nz h1.nz _, by have := setB_len (madeP ms i) (ms.getD i 0 % 1152921504606846976); have := h1.len; omega, fun q hq => by have := h3 q hq; omega⟩, h3⟩

def madeAt (on : Nat) (ms : List Nat) (i : Nat) : List (List Value) := (madeL on (ms.take i)).map stpRow
theorem madeAt_succ (on : Nat) (ms : List Nat) (i : Nat) (h : i < ms.length) : madeAt on ms (i + 1) = madeAt on ms i ++ [stpRow (mk on (ms.getD i 0))] := by
  unfold madeAt madeL
  rw [List.take_succ_eq_append_getElem h, show ms.getD i 0 = ms[i] by rw [List.getD_eq_getElem?_getD, List.getElem?_eq_getElem h]; rfl, List.map_append, List.map_cons, List.map_append, List.map_cons]
  rfl

theorem info_stepm : (Tryz.prog.info? 33).map (fun i => (i.zero, i.size, i.bytes)) = some (some (.agg #[.int .i64 0, .int .i64 0, .int .i64 0, .int .u64 0, .int .i64 0, .bool false]), 6, 48) := by kernel_rfl

theorem own_oneM (w : World) (B : Nat) (e : TypeId) (us : Array Value) (S : Nat) (hS : us.size = S) (hB : B ≤ w.heap.size) : (w.alloc (.cells us e)).ownsRow B e S (.slice (some ⟨w.heap.size, 0, none⟩) 1 1) 1 us.toList :=
  ⟨by simp [hS], .inr ⟨w.heap.size, 1, us, rfl, hB, heap_alloc_new w _, Nat.le_refl _, by decide, by simp [hS], by rw [Nat.one_mul, List.take_of_length_le (by simp [hS])]⟩⟩

theorem fr3 (w : World) (b : Nat) (u0 u1 u2 : Value) : Fr [b] [b] w (((w.setCell ⟨b, 0, none⟩ u0).setCell ⟨b, 1, none⟩ u1).setCell ⟨b, 2, none⟩ u2) :=
  ((Fr.store w (F := [b]) (a := ⟨b, 0, none⟩) (List.mem_singleton.2 rfl) u0).trans (Fr.store _ (F := [b]) (a := ⟨b, 1, none⟩) (List.mem_singleton.2 rfl) u1)).trans (Fr.store _ (F := [b]) (a := ⟨b, 2, none⟩) (List.mem_singleton.2 rfl) u2)

def MadeRel (on : Nat) (ms : List Nat) (n q : Nat) (w : World) (k : Nat) (st idx : Value) (wr : World) : Prop :=
  ∃ (i : Nat) (pa : Option Addr) (ca : Nat) (sv : Value), st = .slice pa (i + 1) ca ∧ idx = .int .i64 (i : Int) ∧ i + k = n ∧ wr.ownsRow w.heap.size 33 6 (.slice pa (i + 1) ca) (i + 1) (madeAt on ms i).flatten ∧
    Blk wr q 28 #[.bool false, .int .u64 0, sv] ∧ Us wr sv (nums (madeP ms i)) ∧ Blk wr w.heap.size 28 #[.bool false, .int .u64 0, .slice none 0 0] ∧ Below w.heap.size w wr

set_option maxRecDepth 100000 in
set_option maxHeartbeats 2000000 in
theorem made_sp (sz : Int) (v : Value) (xs : List Nat) (on : Nat) (w : World) (hv : Sl w v (u64s xs)) (hb : ∀ x ∈ xs, x < 18446744073709551616) (hon : on ≤ 1000) :
    Calls Tryz.prog 5 #[.bool false, .int .u16 sz, v, .int .i64 (on : Int)] w fun e w' =>
      ∃ (pa : Option Addr) (ca : Nat) (sv : Value), e = .returned (.tuple #[.slice pa ((xs.take 40).length + 1) ca, .agg #[.bool false, .int .u64 0, sv]]) ∧ w'.ownsRow w.heap.size 33 6 (.slice pa ((xs.take 40).length + 1) ca) ((xs.take 40).length + 1) ((madeL on (xs.take 40)).map stpRow).flatten ∧ Us w' sv (nums (madeP (xs.take 40) (xs.take 40).length)) ∧ Below w.heap.size w w' := by
  obtain ⟨a0, L, cap, rfl, hl, hc, hm, hr⟩ := hv
  rw [u64s_len] at hl
  obtain ⟨ms, hms⟩ : ∃ ms, ms = xs.take 40 := ⟨_, rfl⟩
  rw [← hms]
  obtain ⟨n, hn⟩ : ∃ n, n = ms.length := ⟨_, rfl⟩
  rw [← hn]
  have hn60 : n ≤ 40 := by rw [hn, hms, List.length_take]; omega
  have hnL : n ≤ L := by rw [hn, hms, List.length_take]; omega
  have hnL2 : n = L ∨ n = 40 := by rw [hn, hms, List.length_take]; omega
  have hget : ∀ i, i < n → xs.getD i 0 = ms.getD i 0 := fun i hi => by
    rw [hms, List.getD_eq_getElem?_getD, List.getD_eq_getElem?_getD, List.getElem?_take_of_lt (by omega)]
  have hmb : ∀ x ∈ ms, x < 18446744073709551616 := fun x hx => hb x (List.mem_of_mem_take (hms ▸ hx))
  have HN := Lib.hid hn
  have HG := Lib.hid hget
  have HMB := Lib.hid hmb
  have HL := Lib.hid hl
  have HNL := Lib.hid hnL2
  have hLm : (L : Int) ≤ 9223372036854775807 := by unfold maxLen at hm; omega
  clear hn hget hmb hl hb hms hnL2 hm
  go_enter Tryz.func5, Tryz.ntmps5
  go_wp2_with fail
  have hb0 : Below w.heap.size w ((((w.alloc (.cells #[.bool false, .int .u64 0, .slice none 0 0] 28)).alloc (.cells #[.bool false, .int .u64 0, .slice none 0 0] 28)).alloc (.cells #[.int .i64 2, .int .i64 0, .int .i64 0, .int .u64 0, .int .i64 0, .bool false] 33)).alloc (.cells #[.int .i64 2, .int .i64 0, .int .i64 0, .int .u64 0, .int .i64 0, .bool false] 33)) := ((((Below.refl _ _).alloc (Nat.le_refl _) _).alloc (by simp) _).alloc (by simp; omega) _).alloc (by simp; omega) _
  have ho0 := own_oneM (((w.alloc (.cells #[.bool false, .int .u64 0, .slice none 0 0] 28)).alloc (.cells #[.bool false, .int .u64 0, .slice none 0 0] 28)).alloc (.cells #[.int .i64 2, .int .i64 0, .int .i64 0, .int .u64 0, .int .i64 0, .bool false] 33)) w.heap.size 33 #[.int .i64 2, .int .i64 0, .int .i64 0, .int .u64 0, .int .i64 0, .bool false] 6 rfl (by simp; omega)
  have hq9 : Blk ((((w.alloc (.cells #[.bool false, .int .u64 0, .slice none 0 0] 28)).alloc (.cells #[.bool false, .int .u64 0, .slice none 0 0] 28)).alloc (.cells #[.int .i64 2, .int .i64 0, .int .i64 0, .int .u64 0, .int .i64 0, .bool false] 33)).alloc (.cells #[.int .i64 2, .int .i64 0, .int .i64 0, .int .u64 0, .int .i64 0, .bool false] 33)) w.heap.size 28 #[.bool false, .int .u64 0, .slice none 0 0] := (((Blk.new w 28 #[.bool false, .int .u64 0, .slice none 0 0]).alloc _).alloc _).alloc _
  have hq0 : Blk ((((w.alloc (.cells #[.bool false, .int .u64 0, .slice none 0 0] 28)).alloc (.cells #[.bool false, .int .u64 0, .slice none 0 0] 28)).alloc (.cells #[.int .i64 2, .int .i64 0, .int .i64 0, .int .u64 0, .int .i64 0, .bool false] 33)).alloc (.cells #[.int .i64 2, .int .i64 0, .int .i64 0, .int .u64 0, .int .i64 0, .bool false] 33)) (w.heap.size + 1) 28 #[.bool false, .int .u64 0, .slice none 0 0] := by
    have := ((Blk.new (w.alloc (.cells #[.bool false, .int .u64 0, .slice none 0 0] 28)) 28 #[.bool false, .int .u64 0, .slice none 0 0]).alloc (.cells #[.int .i64 2, .int .i64 0, .int .i64 0, .int .u64 0, .int .i64 0, .bool false] 33)).alloc (.cells #[.int .i64 2, .int .i64 0, .int .i64 0, .int .u64 0, .int .i64 0, .bool false] 33)
    simpa using this
  simp only [World.size_alloc] at ho0
  obtain ⟨w0, hw0⟩ : ∃ w0, ((((w.alloc (.cells #[.bool false, .int .u64 0, .slice none 0 0] 28)).alloc (.cells #[.bool false, .int .u64 0, .slice none 0 0] 28)).alloc (.cells #[.int .i64 2, .int .i64 0, .int .i64 0, .int .u64 0, .int .i64 0, .bool false] 33)).alloc (.cells #[.int .i64 2, .int .i64 0, .int .i64 0, .int .u64 0, .int .i64 0, .bool false] 33)) = w0 := ⟨_, rfl⟩
  rw [hw0] at hb0 ho0 hq0 hq9 ⊢
  obtain ⟨q, hq⟩ : ∃ q, w.heap.size + 1 = q := ⟨_, rfl⟩
  have hqw : w.heap.size ≤ q := by omega
  have hqne : w.heap.size ∉ [q] := by rw [List.mem_singleton]; omega
  rw [hq] at hq0 ho0 ⊢
  have HB0 := Lib.hid hb0
  have HO0 := Lib.hid ho0
  have HQ0 := Lib.hid hq0
  have HQ9 := Lib.hid hq9
  clear hw0 hb0 ho0 hq0 hq hq9
  go_loopg [13, 14] n (fun k st idx wr => MadeRel on ms n q w k st idx wr)
  case atStart => exact ⟨0, _, _, _, rfl, rfl, by omega, HO0.out, HQ0.out, Us.nil _, HQ9.out, HB0.out⟩
  case round =>
    obtain ⟨i, pa, ca, sv, rfl, rfl, hik, hown, hqb, hus, hq9, hbel⟩ := hrel
    obtain ⟨av, cv, hve, _⟩ := hus.shape
    obtain ⟨D, hD⟩ : ∃ D, (nums (madeP ms i)).length = D := ⟨_, rfl⟩
    rw [hD] at hve
    subst hve
    have hnl : (nums (madeP ms i)).length ≤ 100000 := by
      have h1 := cnt_le (madeP ms i)
      have h2 := (madeP_ok ms i (by have := HN.out; omega)).1.len
      omega
    have HNU := Lib.hid hnl
    have HO := Lib.hid hown
    have HQ := Lib.hid hqb
    have HU := Lib.hid hus
    have HQ9 := Lib.hid hq9
    have HB := Lib.hid hbel
    have hsz := hbel.size
    clear hown hqb hus hq9 hbel hD hnl
    by_cases hi : i < n
    · obtain ⟨b, off, rfl, hcell⟩ := hr (by omega)
      have hci := hcell i _ (u64s_at xs i (by rw [HL.out]; omega))
      rw [HG.out i hi] at hci
      have hx64 : ms.getD i 0 < 18446744073709551616 := HMB.out _ (by
        have hi' : i < ms.length := by rw [← HN.out]; exact hi
        rw [List.getD_eq_getElem?_getD, List.getElem?_eq_getElem hi']; exact List.getElem_mem hi')
      have e1 := madeAt_succ on ms i (by rw [← HN.out]; exact hi)
      have e2 := madeP_succ ms i (by rw [← HN.out]; exact hi)
      have hpk := (madeP_ok ms i (by have := HN.out; omega)).1.ok
      obtain ⟨X, hX⟩ : ∃ X, ms.getD i 0 = X := ⟨_, rfl⟩
      rw [hX] at hci hx64 e1 e2
      rw [← HB.out.cell (World.block_lt_of_cell? w _ hci)] at hci
      have hblt := World.block_lt_of_cell? _ _ hci
      obtain ⟨K, hK⟩ : ∃ K, K = X % 1152921504606846976 := ⟨_, rfl⟩
      have hKl : K < 1152921504606846976 := by omega
      have hkm : (X : Int) % 1152921504606846976 = (K : Int) := by omega
      have hkt : (X : Int).tmod 1152921504606846976 = (K : Int) := by rw [Int.tmod_eq_emod_of_nonneg (by omega)]; omega
      have hst : stpRow (mk on X) = [.int .i64 3, .int .i64 (on : Int), .int .i64 0, .int .u64 (K : Int), .int .i64 0, .bool false] := by rw [hK]; rfl
      rw [hst] at e1
      rw [← hK] at e2
      have E1 := Lib.hid e1
      have E2 := Lib.hid e2
      have HPK := Lib.hid hpk
      have i1 : (i : Int) < 40 := by omega
      have hmx : i + 1 + 1 ≤ maxLen := by unfold maxLen; omega
      have hone : ∀ u ∈ (#[.int .i64 3, .int .i64 (on : Int), .int .i64 0, .int .u64 (K : Int), .int .i64 0, .bool false] : Array Value).toList, u.oneCell' = true := by
        intro u hu
        simp at hu
        rcases hu with rfl | rfl | rfl | rfl | rfl | rfl <;> rfl
      have HON := Lib.hid hone
      clear hcell hX e1 e2 hK hst hpk hone hr
      cases gk with
      | zero => omega
      | succ k =>
        have hiL : i < L := by omega
        have hiL2 : (i : Int) < (L : Int) := by omega
        go_wp2_with (at_builtin; refine wpList_appendS rfl _ _ 26 rfl w.heap.size 6 33 (.agg #[.int .i64 0, .int .i64 0, .int .i64 0, .int .u64 0, .int .i64 0, .bool false]) 48 Tryz.underlying26 info_stepm rfl (by decide) (.slice pa (i + 1) ca) (i + 1) (madeAt on ms i).flatten rfl HO.out #[.int .i64 3, .int .i64 (on : Int), .int .i64 0, .int .u64 (K : Int), .int .i64 0, .bool false] rfl rfl HON.out hmx (by omega) (by omega) ?_; intro g3 cap3 w3 hown3 hg3 hb3; have HO3 := Lib.hid hown3; have HG3 := Lib.hid hg3; have HB3 := Lib.hid hb3; have hq3 := HQ.out.grown hg3 (fun e => row_blk HO.out HQ.out (by decide) e); have c2 := hq3.cell 2 rfl; have HQ3 := Lib.hid hq3; clear hown3 hg3 hb3 hq3)
        have hfr3 : Fr (obl (.slice pa (i + 1) ca)) (obl (.slice pa (i + 1) ca)) wr w3 := Fr.of_grown (v' := .slice pa (i + 1) ca) HG3.out (fun k hk => .inl hk)
        have hu3 : Us w3 (.slice av D cv) (nums (madeP ms i)) := hfr3.own HU.out (row_row HU.out HO.out (by decide))
        have hq93 := HQ9.out.grown HG3.out (fun e => row_blk HO.out HQ9.out (by decide) e)
        have HQ93 := Lib.hid hq93
        refine (put_any (.slice av D cv) (nums (madeP ms i)) K w3 hu3 HNU.out).mono ?_
        clear hfr3 hu3 hq93
        rintro e w5 ⟨v2, rfl, hU2, hb5⟩
        obtain ⟨a2, c2', rfl, _⟩ := hU2.shape
        have HU2 := Lib.hid hU2
        have HB5 := Lib.hid hb5
        have hq5 : Blk w5 q 28 #[.bool false, .int .u64 0, .slice av D cv] := (hb5.block q HQ3.out.lt).trans HQ3.out
        have p2 : w5.cell? ⟨q, 2, none⟩ = some (.slice av D cv) := hq5.cell 2 rfl
        have hqf5 : w5.frozen? ⟨q, 2, none⟩ = false := hq5.free 2
        have HQ5 := Lib.hid hq5
        clear hU2 hb5 hq5 c2
        go_wp2_with fail
        go_roundg k
        case measure => omega
        case rel =>
          have hfs := Fr.store w5 (F := [q]) (a := ⟨q, 2, none⟩) (List.mem_singleton.2 rfl) (.slice a2 (sPut (nums (madeP ms i)) K).length c2')
          have ho5 := own_below HO3.out HB5.out
          have hu5 := HU2.out
          refine ⟨i + 1, some ⟨g3, 0, none⟩, cap3, .slice a2 (sPut (nums (madeP ms i)) K).length c2', rfl, by go_num, by omega, ?_, HQ5.out.set 2 _, ?_, hfs.blk ((HB5.out.block _ HQ93.out.lt).trans HQ93.out) hqne, (HB.out.trans (HB3.out.trans (HB5.out.mono (Nat.le_trans hsz HB3.out.size)))).setCell (p := ⟨q, 2, none⟩) hqw _⟩
          · rw [E1.out, List.flatten_append]
            have h := hfs.own ho5 (fun b h1 h2 => row_blk ho5 HQ5.out (by decide) (by rw [mem_obl] at h1; rw [h1, List.mem_singleton.1 h2]))
            simpa using h
          · rw [E2.out, (set_ok HPK.out K).2]
            exact hfs.own hu5 (fun b h1 h2 => row_blk hu5 HQ5.out (by decide) (by rw [mem_obl] at h1; rw [h1, List.mem_singleton.1 h2]))
    · obtain rfl : i = n := by omega
      have hway : i = L ∨ (¬ i = L ∧ i = 40) := by have := HNL.out; omega
      have q0 : wr.cell? ⟨q, 0, none⟩ = some (.bool false) := HQ.out.cell 0 rfl
      have q1 : wr.cell? ⟨q, 1, none⟩ = some (.int .u64 0) := HQ.out.cell 1 rfl
      have q2 : wr.cell? ⟨q, 2, none⟩ = some (.slice av D cv) := HQ.out.cell 2 rfl
      have r0 : wr.cell? ⟨w.heap.size, 0, none⟩ = some (.bool false) := HQ9.out.cell 0 rfl
      have r1 : wr.cell? ⟨w.heap.size, 1, none⟩ = some (.int .u64 0) := HQ9.out.cell 1 rfl
      have r2 : wr.cell? ⟨w.heap.size, 2, none⟩ = some (.slice none 0 0) := HQ9.out.cell 2 rfl
      have f0 := HQ9.out.free 0
      have f1 := HQ9.out.free 1
      have f2 := HQ9.out.free 2
      clear hr
      go_wp2_with fail
      all_goals go_region
      all_goals go_wp2_with fail
      all_goals (refine bodyPost_ret (v := .tuple #[.slice pa (i + 1) ca, .agg #[.bool false, .int .u64 0, .slice av D cv]]) (by simp [results, Tryz.results5, go_sem, *]) rfl ?_)
      all_goals
        have h3 := fr3 wr w.heap.size (.bool false) (.int .u64 0) (.slice av D cv)
        have hap : ∀ {e : TypeId} {sz : Nat} {B : Nat} {v : Value} {m : Nat} {l : List Value}, wr.ownsRow B e sz v m l → e ≠ 28 → ∀ b ∈ obl v, b ∉ [w.heap.size] := fun h hne b h1 h2 => row_blk h HQ9.out hne (by rw [mem_obl] at h1; rw [h1, List.mem_singleton.1 h2])
        have hms : (madeL on ms).map stpRow = madeAt on ms i := by unfold madeAt; rw [HN.out, List.take_length]
        refine ⟨pa, ca, .slice av D cv, rfl, ?_, ?_, ?_⟩
        · rw [hms]; exact h3.drew.own HO.out (hap HO.out (by decide))
        · have h := HU.out
          exact h3.drew.own h (hap h (by decide))
        · exact HB.out.trans (h3.drew.below (fun k hk => by rw [List.mem_singleton.1 hk]; exact Nat.le_refl _) hsz)
end Go.Proofs.YtgifbdjifmoafaaGreat
