/- Walk of laws.baMade for a dense array (printed by gen_ba_madede.py). -/
import Derived.Test.YtjnefgmoobbniaaGreatBaDeStep
import Derived.Test.YtjnefgmoobbniaaGreatBaMade
namespace Go.Proofs.YtjnefgmoobbniaaGreat
set_option linter.unusedVariables false
open Go.RowKit Bam

def mkD (on C x : Nat) : Stp := ⟨3, on, 0, x % 1152921504606846976 % C, 0, false⟩
def firstD (N : Nat) : Stp := ⟨1, 0, 0, N, 0, false⟩
def madeLD (on N C : Nat) (ms : List Nat) : List Stp := firstD N :: ms.map (mkD on C)
def madeW (M : Nat) (ms : List Nat) (i : Nat) : List Nat := (ms.take i).foldl (fun W x => dSet W (x % 1152921504606846976 % (64 * M))) (List.replicate M 0)
theorem madeW_succ (M : Nat) (ms : List Nat) (i : Nat) (h : i < ms.length) : madeW M ms (i + 1) = dSet (madeW M ms i) (ms.getD i 0 % 1152921504606846976 % (64 * M)) := by
  unfold madeW
  rw [List.take_succ_eq_append_getElem h, List.foldl_append]
  simp [List.getD_eq_getElem?_getD, h]
theorem madeW_ok (M : Nat) (hM : 0 < M) (ms : List Nat) : ∀ i, i ≤ ms.length → W64 (madeW M ms i) ∧ (madeW M ms i).length = M
  | 0, _ => ⟨w64_rep M, List.length_replicate⟩
  | i + 1, h => by
    obtain ⟨h1, h2⟩ := madeW_ok M hM ms i (Nat.le_of_succ_le h)
    rw [madeW_succ M ms i h]
    refine ⟨(dSet_ok h1 (by rw [h2]; exact Nat.mod_lt _ (by omega))).1, ?_⟩
    unfold dSet
    rw [List.length_set]; exact h2
def madeAtD (on N C : Nat) (ms : List Nat) (i : Nat) : List (List Value) := (madeLD on N C (ms.take i)).map stpRow
theorem madeAtD_succ (on N C : Nat) (ms : List Nat) (i : Nat) (h : i < ms.length) : madeAtD on N C ms (i + 1) = madeAtD on N C ms i ++ [stpRow (mkD on C (ms.getD i 0))] := by
  unfold madeAtD madeLD
  rw [List.take_succ_eq_append_getElem h, show ms.getD i 0 = ms[i] by rw [List.getD_eq_getElem?_getD, List.getElem?_eq_getElem h]; rfl, List.map_append, List.map_cons, List.map_append, List.map_cons]
  rfl

def MadeRelD (on N C M : Nat) (ms : List Nat) (n q : Nat) (w : World) (k : Nat) (st idx : Value) (wr : World) : Prop :=
  ∃ (i : Nat) (pa : Option Addr) (ca : Nat) (sv : Value), st = .slice pa (i + 1) ca ∧ idx = .int .i64 (i : Int) ∧ i + k = n ∧ wr.ownsRow w.heap.size 40 6 (.slice pa (i + 1) ca) (i + 1) (madeAtD on N C ms i).flatten ∧
    Blk wr q 36 #[.bool true, .int .u64 (M : Int), sv] ∧ Us wr sv (dnums (madeW M ms i)) ∧ Blk wr w.heap.size 36 #[.bool false, .int .u64 0, .slice none 0 0] ∧ Below w.heap.size w wr
theorem fr6 (w : World) (b : Nat) (u0 u1 u2 u3 u4 u5 : Value) : Fr [b] [b] w ((((((w.setCell ⟨b, 0, none⟩ u0).setCell ⟨b, 1, none⟩ u1).setCell ⟨b, 2, none⟩ u2).setCell ⟨b, 3, none⟩ u3).setCell ⟨b, 4, none⟩ u4).setCell ⟨b, 5, none⟩ u5) :=
  (fr3 w b u0 u1 u2).trans (((Fr.store _ (F := [b]) (a := ⟨b, 3, none⟩) (List.mem_singleton.2 rfl) u3).trans (Fr.store _ (F := [b]) (a := ⟨b, 4, none⟩) (List.mem_singleton.2 rfl) u4)).trans (Fr.store _ (F := [b]) (a := ⟨b, 5, none⟩) (List.mem_singleton.2 rfl) u5))

def OneRel (w : World) (s6 : Value) (wr : World) : Prop := s6 = .int .u64 0 ∧ wr = w
set_option maxRecDepth 100000 in
theorem banew_any (n M : Nat) (w : World) (hM : M = (n + 63) / 64) (hn : n ≤ 1000000) :
    Calls Tryz.prog 24 #[.int .u64 (n : Int), .bool false] w fun e w' => e = .returned (.agg #[.bool true, .int .u64 (M : Int), .slice none 0 0]) ∧ Below w.heap.size w w' := by
  have h2 : ((n : Int) + 63) / 64 = (M : Int) := by omega
  have hMb : M ≤ 100000 := by omega
  clear hM
  go_enter Tryz.func24, Tryz.ntmps24
  go_wp2_with fail
  go_loopg [6] 0 (fun k s6 wr => OneRel ((w.alloc (.cells #[.bool false, .int .u64 0, .slice none 0 0] 36)).alloc (.cells #[.bool true, .int .u64 (M : Int), .slice none 0 0] 36)) s6 wr)
  case atStart => exact ⟨rfl, rfl⟩
  case round =>
    obtain ⟨rfl, rfl⟩ := hrel
    go_wp2_with fail
    refine bodyPost_ret (v := .agg #[.bool true, .int .u64 (M : Int), .slice none 0 0]) (by simp [results, Tryz.results24, go_sem]) rfl ⟨rfl, ((Below.refl _ _).alloc (Nat.le_refl _) _).alloc (by simp) _⟩

set_option maxRecDepth 100000 in
set_option maxHeartbeats 2000000 in
theorem made_de (sz N M : Nat) (v : Value) (xs : List Nat) (on : Nat) (w : World) (hv : Sl w v (u64s xs)) (hb : ∀ x ∈ xs, x < 18446744073709551616) (hon : on ≤ 1000) (hsz : sz < 65536) (hN : N = 1 + sz % 512) (hM : M = (N + 63) / 64) :
    Calls Tryz.prog 18 #[.bool true, .int .u16 (sz : Int), v, .int .i64 (on : Int)] w fun e w' =>
      ∃ (pa : Option Addr) (ca : Nat) (sv : Value), e = .returned (.tuple #[.slice pa ((xs.take 40).length + 1) ca, .agg #[.bool true, .int .u64 (M : Int), sv]]) ∧ w'.ownsRow w.heap.size 40 6 (.slice pa ((xs.take 40).length + 1) ca) ((xs.take 40).length + 1) ((madeLD on N (64 * M) (xs.take 40)).map stpRow).flatten ∧ Us w' sv (dnums (madeW M (xs.take 40) (xs.take 40).length)) ∧ Below w.heap.size w w' := by
  obtain ⟨a0, L, cap, rfl, hl, hc, hm, hr⟩ := hv
  rw [u64s_len] at hl
  obtain ⟨ms, hms⟩ : ∃ ms, ms = xs.take 40 := ⟨_, rfl⟩
  rw [← hms]
  obtain ⟨n, hn⟩ : ∃ n, n = ms.length := ⟨_, rfl⟩
  rw [← hn]
  have hn60 : n ≤ 40 := by rw [hn, hms, List.length_take]; omega
  have hnL : n ≤ L := by rw [hn, hms, List.length_take]; omega
  have hnL2 : n = L ∨ n = 40 := by rw [hn, hms, List.length_take]; omega
  have hget : ∀ i, i < n → xs.getD i 0 = ms.getD i 0 := fun i hi => by
    rw [hms, List.getD_eq_getElem?_getD, List.getD_eq_getElem?_getD, List.getElem?_take_of_lt (by omega)]
  have hmb : ∀ x ∈ ms, x < 18446744073709551616 := fun x hx => hb x (List.mem_of_mem_take (hms ▸ hx))
  have HN := Lib.hid hn
  have HG := Lib.hid hget
  have HMB := Lib.hid hmb
  have HL := Lib.hid hl
  have HNL := Lib.hid hnL2
  have hLm : (L : Int) ≤ 9223372036854775807 := by unfold maxLen at hm; omega
  have hNb : N ≤ 512 := by omega
  have hMb : M ≤ 8 := by omega
  have hM0 : 0 < M := by omega
  have hs1 : IntKind.u64.wrap (sz : Int) = (sz : Int) := u64wd sz (by omega)
  have hs2 : (sz : Int).tmod 512 = ((sz % 512 : Nat) : Int) := by rw [Int.tmod_eq_emod_of_nonneg (by omega)]; omega
  have hs3 : (sz : Int) % 512 = ((sz % 512 : Nat) : Int) := by omega
  obtain ⟨R, hR⟩ : ∃ R, sz % 512 = R := ⟨_, rfl⟩
  rw [hR] at hN hs2 hs3
  have hs4 : (1 : Int) + (R : Int) = (N : Int) := by omega
  have hbn := fun w' => banew_any N M w' hM (by omega)
  have HBN := Lib.hid hbn
  have HNE := Lib.hid hN
  have HME := Lib.hid hM
  have hRb : R ≤ 511 := by omega
  obtain ⟨C, hCe⟩ : ∃ C, 64 * M = C := ⟨_, rfl⟩
  rw [hCe]
  have HCE := Lib.hid hCe
  clear hn hget hmb hl hb hms hnL2 hm hN hM hbn hR hCe
  go_enter Tryz.func18, Tryz.ntmps18
  go_wp2_with fail
  have hb0 : Below w.heap.size w (((w.alloc (.cells #[.bool false, .int .u64 0, .slice none 0 0] 36)).alloc (.cells #[.bool false, .int .u64 0, .slice none 0 0] 36)).alloc (.cells #[.int .i64 2, .int .i64 0, .int .i64 0, .int .u64 0, .int .i64 0, .bool false] 40)) := (((Below.refl _ _).alloc (Nat.le_refl _) _).alloc (by simp) _).alloc (by simp; omega) _
  have hq9 : Blk (((w.alloc (.cells #[.bool false, .int .u64 0, .slice none 0 0] 36)).alloc (.cells #[.bool false, .int .u64 0, .slice none 0 0] 36)).alloc (.cells #[.int .i64 2, .int .i64 0, .int .i64 0, .int .u64 0, .int .i64 0, .bool false] 40)) w.heap.size 36 #[.bool false, .int .u64 0, .slice none 0 0] := ((Blk.new w 36 #[.bool false, .int .u64 0, .slice none 0 0]).alloc _).alloc _
  have hq0 : Blk (((w.alloc (.cells #[.bool false, .int .u64 0, .slice none 0 0] 36)).alloc (.cells #[.bool false, .int .u64 0, .slice none 0 0] 36)).alloc (.cells #[.int .i64 2, .int .i64 0, .int .i64 0, .int .u64 0, .int .i64 0, .bool false] 40)) (w.heap.size + 1) 36 #[.bool false, .int .u64 0, .slice none 0 0] := by
    have := (Blk.new (w.alloc (.cells #[.bool false, .int .u64 0, .slice none 0 0] 36)) 36 #[.bool false, .int .u64 0, .slice none 0 0]).alloc (.cells #[.int .i64 2, .int .i64 0, .int .i64 0, .int .u64 0, .int .i64 0, .bool false] 40)
    simpa using this
  have hq2 : Blk (((w.alloc (.cells #[.bool false, .int .u64 0, .slice none 0 0] 36)).alloc (.cells #[.bool false, .int .u64 0, .slice none 0 0] 36)).alloc (.cells #[.int .i64 2, .int .i64 0, .int .i64 0, .int .u64 0, .int .i64 0, .bool false] 40)) (w.heap.size + 1 + 1) 40 #[.int .i64 2, .int .i64 0, .int .i64 0, .int .u64 0, .int .i64 0, .bool false] := by
    have := Blk.new ((w.alloc (.cells #[.bool false, .int .u64 0, .slice none 0 0] 36)).alloc (.cells #[.bool false, .int .u64 0, .slice none 0 0] 36)) 40 #[.int .i64 2, .int .i64 0, .int .i64 0, .int .u64 0, .int .i64 0, .bool false]
    rw [World.size_alloc, World.size_alloc] at this
    exact this
  have hzz : ((((w.alloc (.cells #[.bool false, .int .u64 0, .slice none 0 0] 36)).alloc (.cells #[.bool false, .int .u64 0, .slice none 0 0] 36)).alloc (.cells #[.int .i64 2, .int .i64 0, .int .i64 0, .int .u64 0, .int .i64 0, .bool false] 40))).heap.size = w.heap.size + 1 + 1 + 1 := by simp
  refine (HBN.out _).mono ?_
  rintro e w1 ⟨rfl, hb1⟩
  replace hb0 := hb0.trans (hb1.mono hb0.size)
  replace hq9 : Blk w1 w.heap.size 36 #[.bool false, .int .u64 0, .slice none 0 0] := (hb1.block _ hq9.lt).trans hq9
  replace hq0 : Blk w1 (w.heap.size + 1) 36 #[.bool false, .int .u64 0, .slice none 0 0] := (hb1.block _ hq0.lt).trans hq0
  replace hq2 : Blk w1 (w.heap.size + 1 + 1) 40 #[.int .i64 2, .int .i64 0, .int .i64 0, .int .u64 0, .int .i64 0, .bool false] := (hb1.block _ hq2.lt).trans hq2
  have hz1 := hb1.size
  rw [hzz] at hz1
  clear hb1 hzz
  obtain ⟨q, hq⟩ : ∃ q, w.heap.size + 1 = q := ⟨_, rfl⟩
  rw [hq] at hq0 hq2 hz1 ⊢
  obtain ⟨f, hf⟩ : ∃ f, q + 1 = f := ⟨_, rfl⟩
  rw [hf] at hq2 hz1 ⊢
  have hqw : w.heap.size < q := by omega
  have hfq : q < f := by omega
  have c0 : w1.cell? ⟨q, 0, none⟩ = some (.bool false) := hq0.cell 0 rfl
  have c1 : w1.cell? ⟨q, 1, none⟩ = some (.int .u64 0) := hq0.cell 1 rfl
  have c2 : w1.cell? ⟨q, 2, none⟩ = some (.slice none 0 0) := hq0.cell 2 rfl
  have g0 := hq0.free 0
  have g1 := hq0.free 1
  have g2 := hq0.free 2
  have d0 : w1.cell? ⟨f, 0, none⟩ = some (.int .i64 2) := hq2.cell 0 rfl
  have d1 : w1.cell? ⟨f, 1, none⟩ = some (.int .i64 0) := hq2.cell 1 rfl
  have d2 : w1.cell? ⟨f, 2, none⟩ = some (.int .i64 0) := hq2.cell 2 rfl
  have d3 : w1.cell? ⟨f, 3, none⟩ = some (.int .u64 0) := hq2.cell 3 rfl
  have d4 : w1.cell? ⟨f, 4, none⟩ = some (.int .i64 0) := hq2.cell 4 rfl
  have d5 : w1.cell? ⟨f, 5, none⟩ = some (.bool false) := hq2.cell 5 rfl
  have e0 := hq2.free 0
  have e1 := hq2.free 1
  have e2 := hq2.free 2
  have e3 := hq2.free 3
  have e4 := hq2.free 4
  have e5 := hq2.free 5
  have hne : f ≠ q := by omega
  have HQ9 := Lib.hid hq9
  have HQ0 := Lib.hid hq0
  have HQ2 := Lib.hid hq2
  have HB0 := Lib.hid hb0
  clear hq9 hq0 hq2 hb0 hq hf hs1 hs2 hs3 hs4
  go_wp2_with fail
  have hfA := fr3 w1 q (.bool true) (.int .u64 (M : Int)) (.slice none 0 0)
  have hfB := fr6 (((w1.setCell ⟨q, 0, none⟩ (.bool true)).setCell ⟨q, 1, none⟩ (.int .u64 (M : Int))).setCell ⟨q, 2, none⟩ (.slice none 0 0)) f (.int .i64 1) (.int .i64 0) (.int .i64 0) (.int .u64 (N : Int)) (.int .i64 0) (.bool false)
  have hqA : Blk (((w1.setCell ⟨q, 0, none⟩ (.bool true)).setCell ⟨q, 1, none⟩ (.int .u64 (M : Int))).setCell ⟨q, 2, none⟩ (.slice none 0 0)) q 36 #[.bool true, .int .u64 (M : Int), .slice none 0 0] := ((HQ0.out.set 0 _).set 1 _).set 2 _
  have hq0 := (hfB.blk hqA (by rw [List.mem_singleton]; omega)).alloc (.cells #[.int .i64 1, .int .i64 0, .int .i64 0, .int .u64 (N : Int), .int .i64 0, .bool false] 40)
  have hq9 := (hfB.blk (hfA.blk HQ9.out (by rw [List.mem_singleton]; omega)) (by rw [List.mem_singleton]; omega)).alloc (.cells #[.int .i64 1, .int .i64 0, .int .i64 0, .int .u64 (N : Int), .int .i64 0, .bool false] 40)
  have hb0 : Below w.heap.size w ((((((((((w1.setCell ⟨q, 0, none⟩ (.bool true)).setCell ⟨q, 1, none⟩ (.int .u64 (M : Int))).setCell ⟨q, 2, none⟩ (.slice none 0 0)).setCell ⟨f, 0, none⟩ (.int .i64 1)).setCell ⟨f, 1, none⟩ (.int .i64 0)).setCell ⟨f, 2, none⟩ (.int .i64 0)).setCell ⟨f, 3, none⟩ (.int .u64 (N : Int))).setCell ⟨f, 4, none⟩ (.int .i64 0)).setCell ⟨f, 5, none⟩ (.bool false)).alloc (.cells #[.int .i64 1, .int .i64 0, .int .i64 0, .int .u64 (N : Int), .int .i64 0, .bool false] 40)) := by
    have h1 := (hfA.below (B := w.heap.size) (fun k hk => by rw [List.mem_singleton] at hk; omega) HB0.out.size)
    have h2 := (hfB.below (B := w.heap.size) (fun k hk => by rw [List.mem_singleton] at hk; omega) (Nat.le_trans HB0.out.size hfA.size))
    exact ((HB0.out.trans h1).trans h2).alloc (Nat.le_trans HB0.out.size (Nat.le_trans hfA.size hfB.size)) _
  have ho0 := own_oneM (((((((((w1.setCell ⟨q, 0, none⟩ (.bool true)).setCell ⟨q, 1, none⟩ (.int .u64 (M : Int))).setCell ⟨q, 2, none⟩ (.slice none 0 0)).setCell ⟨f, 0, none⟩ (.int .i64 1)).setCell ⟨f, 1, none⟩ (.int .i64 0)).setCell ⟨f, 2, none⟩ (.int .i64 0)).setCell ⟨f, 3, none⟩ (.int .u64 (N : Int))).setCell ⟨f, 4, none⟩ (.int .i64 0)).setCell ⟨f, 5, none⟩ (.bool false)) w.heap.size 40 #[.int .i64 1, .int .i64 0, .int .i64 0, .int .u64 (N : Int), .int .i64 0, .bool false] 6 rfl (Nat.le_trans HB0.out.size (Nat.le_trans hfA.size hfB.size))
  simp only [World.size_setCell] at ho0
  obtain ⟨w0, hw0⟩ : ∃ w0, (((((((((w1.setCell ⟨q, 0, none⟩ (.bool true)).setCell ⟨q, 1, none⟩ (.int .u64 (M : Int))).setCell ⟨q, 2, none⟩ (.slice none 0 0)).setCell ⟨f, 0, none⟩ (.int .i64 1)).setCell ⟨f, 1, none⟩ (.int .i64 0)).setCell ⟨f, 2, none⟩ (.int .i64 0)).setCell ⟨f, 3, none⟩ (.int .u64 (N : Int))).setCell ⟨f, 4, none⟩ (.int .i64 0)).setCell ⟨f, 5, none⟩ (.bool false)).alloc (.cells #[.int .i64 1, .int .i64 0, .int .i64 0, .int .u64 (N : Int), .int .i64 0, .bool false] 40) = w0 := ⟨_, rfl⟩
  rw [hw0] at hb0 ho0 hq0 hq9 ⊢
  have hqw : w.heap.size ≤ q := by omega
  have hqne : w.heap.size ∉ [q] := by rw [List.mem_singleton]; omega
  have hmulC2 : (64 : Int) * (M : Int) = (C : Int) := by have := HCE.out; omega
  have hCb : C ≤ 512 := by have := HCE.out; omega
  have hCp : 0 < C := by have := HCE.out; omega
  have HB0 := Lib.hid hb0
  have HO0 := Lib.hid ho0
  have HQ0 := Lib.hid hq0
  have HQ9 := Lib.hid hq9
  clear hw0 hb0 ho0 hq0 hq9 hfA hfB hqA c0 c1 c2 g0 g1 g2 d0 d1 d2 d3 d4 d5 e0 e1 e2 e3 e4 e5
  go_loopg [13, 14] n (fun k st idx wr => MadeRelD on N C M ms n q w k st idx wr)
  case atStart => exact ⟨0, _, _, _, rfl, rfl, by omega, HO0.out, HQ0.out, (by rw [show dnums (madeW M ms 0) = [] from dnums_zero M]; exact Us.nil _), HQ9.out, HB0.out⟩
  case round =>
    obtain ⟨i, pa, ca, sv, rfl, rfl, hik, hown, hqb, hus, hq9, hbel⟩ := hrel
    obtain ⟨av, cv, hve, _⟩ := hus.shape
    obtain ⟨D, hD⟩ : ∃ D, (dnums (madeW M ms i)).length = D := ⟨_, rfl⟩
    rw [hD] at hve
    subst hve
    have hnl : (dnums (madeW M ms i)).length ≤ 100000 := by
      have h1 := dnums_len (madeW M ms i)
      have h2 := (madeW_ok M hM0 ms i (by have := HN.out; omega)).2
      omega
    have HNU := Lib.hid hnl
    have HO := Lib.hid hown
    have HQ := Lib.hid hqb
    have HU := Lib.hid hus
    have HQ9 := Lib.hid hq9
    have HB := Lib.hid hbel
    have hsz := hbel.size
    clear hown hqb hus hq9 hbel hD hnl
    by_cases hi : i < n
    · obtain ⟨b, off, rfl, hcell⟩ := hr (by omega)
      have hci := hcell i _ (u64s_at xs i (by rw [HL.out]; omega))
      rw [HG.out i hi] at hci
      have hx64 : ms.getD i 0 < 18446744073709551616 := HMB.out _ (by
        have hi' : i < ms.length := by rw [← HN.out]; exact hi
        rw [List.getD_eq_getElem?_getD, List.getElem?_eq_getElem hi']; exact List.getElem_mem hi')
      have e1 := madeAtD_succ on N C ms i (by rw [← HN.out]; exact hi)
      have e2 := madeW_succ M ms i (by rw [← HN.out]; exact hi)
      obtain ⟨hpk, hpl⟩ := madeW_ok M hM0 ms i (by have := HN.out; omega)
      obtain ⟨X, hX⟩ : ∃ X, ms.getD i 0 = X := ⟨_, rfl⟩
      rw [hX] at hci hx64 e1 e2
      rw [← HB.out.cell (World.block_lt_of_cell? w _ hci)] at hci
      have hblt := World.block_lt_of_cell? _ _ hci
      obtain ⟨Z, hZ⟩ : ∃ Z, Z = X % 1152921504606846976 := ⟨_, rfl⟩
      have hkm0 : (X : Int) % 1152921504606846976 = (Z : Int) := by omega
      have hkt0 : (X : Int).tmod 1152921504606846976 = (Z : Int) := by rw [Int.tmod_eq_emod_of_nonneg (by omega)]; omega
      have hZl : Z < 1152921504606846976 := by omega
      obtain ⟨K, hK0⟩ : ∃ K, K = Z % C := ⟨_, rfl⟩
      have hKl : K < C := by rw [hK0]; exact Nat.mod_lt _ (by omega)
      have hkm : (Z : Int) % (C : Int) = (K : Int) := by rw [hK0]; rfl
      have hkt : (Z : Int).tmod (C : Int) = (K : Int) := by rw [Int.tmod_eq_emod_of_nonneg (by omega)]; exact hkm
      have hC0 : ((C : Int) == 0) = false := by rw [beq_eq_false_iff_ne]; omega
      have hCne : ¬ (C : Int) = 0 := by omega
      have hK : K = X % 1152921504606846976 % C := by rw [hK0, hZ]
      have HKM := Lib.hid hkm
      clear hkm
      have hst : stpRow (mkD on C X) = [.int .i64 3, .int .i64 (on : Int), .int .i64 0, .int .u64 (K : Int), .int .i64 0, .bool false] := by rw [hK]; rfl
      rw [hst] at e1
      rw [HCE.out, ← hK] at e2
      have E1 := Lib.hid e1
      have E2 := Lib.hid e2
      have HPK := Lib.hid hpk
      have i1 : (i : Int) < 40 := by omega
      have hmx : i + 1 + 1 ≤ maxLen := by unfold maxLen; omega
      have hone : ∀ u ∈ (#[.int .i64 3, .int .i64 (on : Int), .int .i64 0, .int .u64 (K : Int), .int .i64 0, .bool false] : Array Value).toList, u.oneCell' = true := by
        intro u hu
        simp at hu
        rcases hu with rfl | rfl | rfl | rfl | rfl | rfl <;> rfl
      have HON := Lib.hid hone
      have hpl2 : K < 64 * (madeW M ms i).length := by rw [hpl, HCE.out]; exact hKl
      have HPL := Lib.hid hpl2
      have HKL := Lib.hid hKl
      clear hcell hX e1 e2 hK hst hpk hone hr hK0 hZ hpl hpl2 hKl
      have k1q : wr.cell? ⟨q, 1, none⟩ = some (.int .u64 (M : Int)) := HQ.out.cell 1 rfl
      cases gk with
      | zero => omega
      | succ k =>
        have hiL : i < L := by omega
        have hiL2 : (i : Int) < (L : Int) := by omega
        go_wp2_with (at_builtin; refine wpList_appendS rfl _ _ 33 rfl w.heap.size 6 40 (.agg #[.int .i64 0, .int .i64 0, .int .i64 0, .int .u64 0, .int .i64 0, .bool false]) 48 Tryz.underlying33 info_stepm rfl (by decide) (.slice pa (i + 1) ca) (i + 1) (madeAtD on N C ms i).flatten rfl HO.out #[.int .i64 3, .int .i64 (on : Int), .int .i64 0, .int .u64 (K : Int), .int .i64 0, .bool false] rfl rfl HON.out hmx (by omega) (by omega) ?_; intro g3 cap3 w3 hown3 hg3 hb3; have HO3 := Lib.hid hown3; have HG3 := Lib.hid hg3; have HB3 := Lib.hid hb3; have hq3 := HQ.out.grown hg3 (fun e => row_blk HO.out HQ.out (by decide) e); have c2 : w3.cell? ⟨q, 2, none⟩ = some (.slice av D cv) := hq3.cell 2 rfl; have c1 : w3.cell? ⟨q, 1, none⟩ = some (.int .u64 (M : Int)) := hq3.cell 1 rfl; have HQ3 := Lib.hid hq3; clear hown3 hg3 hb3 hq3)
        have hfr3 : Fr (obl (.slice pa (i + 1) ca)) (obl (.slice pa (i + 1) ca)) wr w3 := Fr.of_grown (v' := .slice pa (i + 1) ca) HG3.out (fun k hk => .inl hk)
        have hu3 : Us w3 (.slice av D cv) (dnums (madeW M ms i)) := hfr3.own HU.out (row_row HU.out HO.out (by decide))
        have hq93 := HQ9.out.grown HG3.out (fun e => row_blk HO.out HQ9.out (by decide) e)
        have HQ93 := Lib.hid hq93
        refine (put_any (.slice av D cv) (dnums (madeW M ms i)) K w3 hu3 HNU.out).mono ?_
        clear hfr3 hu3 hq93
        rintro e w5 ⟨v2, rfl, hU2, hb5⟩
        obtain ⟨a2, c2', rfl, _⟩ := hU2.shape
        have HU2 := Lib.hid hU2
        have HB5 := Lib.hid hb5
        have hq5 : Blk w5 q 36 #[.bool true, .int .u64 (M : Int), .slice av D cv] := (hb5.block q HQ3.out.lt).trans HQ3.out
        have p2 : w5.cell? ⟨q, 2, none⟩ = some (.slice av D cv) := hq5.cell 2 rfl
        have hqf5 : w5.frozen? ⟨q, 2, none⟩ = false := hq5.free 2
        have HQ5 := Lib.hid hq5
        clear hU2 hb5 hq5 c2
        go_wp2_with fail
        go_roundg k
        case measure => omega
        case rel =>
          have hfs := Fr.store w5 (F := [q]) (a := ⟨q, 2, none⟩) (List.mem_singleton.2 rfl) (.slice a2 (sPut (dnums (madeW M ms i)) K).length c2')
          have ho5 := own_below HO3.out HB5.out
          have hu5 := HU2.out
          refine ⟨i + 1, some ⟨g3, 0, none⟩, cap3, .slice a2 (sPut (dnums (madeW M ms i)) K).length c2', rfl, by go_num, by omega, ?_, HQ5.out.set 2 _, ?_, hfs.blk ((HB5.out.block _ HQ93.out.lt).trans HQ93.out) hqne, (HB.out.trans (HB3.out.trans (HB5.out.mono (Nat.le_trans hsz HB3.out.size)))).setCell (p := ⟨q, 2, none⟩) hqw _⟩
          · rw [E1.out, List.flatten_append]
            have h := hfs.own ho5 (fun b h1 h2 => row_blk ho5 HQ5.out (by decide) (by rw [mem_obl] at h1; rw [h1, List.mem_singleton.1 h2]))
            simpa using h
          · rw [E2.out, (dSet_ok HPK.out HPL.out).2]
            exact hfs.own hu5 (fun b h1 h2 => row_blk hu5 HQ5.out (by decide) (by rw [mem_obl] at h1; rw [h1, List.mem_singleton.1 h2]))
    · obtain rfl : i = n := by omega
      have hway : i = L ∨ (¬ i = L ∧ i = 40) := by have := HNL.out; omega
      have q0 : wr.cell? ⟨q, 0, none⟩ = some (.bool true) := HQ.out.cell 0 rfl
      have q1 : wr.cell? ⟨q, 1, none⟩ = some (.int .u64 (M : Int)) := HQ.out.cell 1 rfl
      have q2 : wr.cell? ⟨q, 2, none⟩ = some (.slice av D cv) := HQ.out.cell 2 rfl
      have r0 : wr.cell? ⟨w.heap.size, 0, none⟩ = some (.bool false) := HQ9.out.cell 0 rfl
      have r1 : wr.cell? ⟨w.heap.size, 1, none⟩ = some (.int .u64 0) := HQ9.out.cell 1 rfl
      have r2 : wr.cell? ⟨w.heap.size, 2, none⟩ = some (.slice none 0 0) := HQ9.out.cell 2 rfl
      have f0 := HQ9.out.free 0
      have f1 := HQ9.out.free 1
      have f2 := HQ9.out.free 2
      clear hr
      go_wp2_with fail
      all_goals go_region
      all_goals go_wp2_with fail
      all_goals (refine bodyPost_ret (v := .tuple #[.slice pa (i + 1) ca, .agg #[.bool true, .int .u64 (M : Int), .slice av D cv]]) (by simp [results, Tryz.results18, go_sem, *]) rfl ?_)
      all_goals
        have h3 := fr3 wr w.heap.size (.bool true) (.int .u64 (M : Int)) (.slice av D cv)
        have hap : ∀ {e : TypeId} {sz : Nat} {B : Nat} {v : Value} {m : Nat} {l : List Value}, wr.ownsRow B e sz v m l → e ≠ 36 → ∀ b ∈ obl v, b ∉ [w.heap.size] := fun h hne b h1 h2 => row_blk h HQ9.out hne (by rw [mem_obl] at h1; rw [h1, List.mem_singleton.1 h2])
        have hms : (madeLD on N C ms).map stpRow = madeAtD on N C ms i := by unfold madeAtD; rw [HN.out, List.take_length]
        refine ⟨pa, ca, .slice av D cv, rfl, ?_, ?_, ?_⟩
        · rw [hms]; exact h3.drew.own HO.out (hap HO.out (by decide))
        · have h := HU.out
          exact h3.drew.own h (hap h (by decide))
        · exact HB.out.trans (h3.drew.below (fun k hk => by rw [List.mem_singleton.1 hk]; exact Nat.le_refl _) hsz)
end Go.Proofs.YtjnefgmoobbniaaGreat
