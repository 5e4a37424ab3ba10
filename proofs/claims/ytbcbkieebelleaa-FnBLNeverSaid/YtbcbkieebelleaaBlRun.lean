/- Walk of impl.BLRun at steps that add some data and then test the same data. -/
import Derived.Test.YtbcbkieebelleaaBlTestImpl
import Derived.Test.YtbcbkieebelleaaBlSame
import Derived.Test.YtbcbkieebelleaaU8Rows
import Derived.Test.YtbcbkieebelleaaRow
namespace Go.Proofs.Ytbcbkieebelleaa
set_option linter.unusedVariables false
open Go.RowKit

theorem ownsRow_low {w w' : World} {B S : Nat} {e : TypeId} {size : Nat} {v : Value} {n : Nat} {xs : List Value} (h : w.ownsRow B e size v n xs) (hb : Below S w w') (hv : ∀ k, v.ownBlock = some k → k < S) : w'.ownsRow B e size v n xs := by
  refine ⟨h.1, ?_⟩
  rcases h.2 with h0 | ⟨g, cap, cur, rfl, hbg, hg, r⟩
  · exact .inl h0
  · exact .inr ⟨g, cap, cur, rfl, hbg, (hb.block g (hv g rfl)).trans hg, r⟩

theorem Bf.low {B S f p m k L g : Nat} {ws : List Nat} {cap : Nat} {w w' : World} (h : Bf B w f p m k L ws cap) (hg : w.cell? ⟨p, 1, none⟩ = some (.slice (some ⟨g, 0, none⟩) ws.length cap))
    (hf : f < S) (hp : p < S) (hgS : g < S) (hb : Below S w w') : Bf B w' f p m k L ws cap ∧ w'.cell? ⟨p, 1, none⟩ = some (.slice (some ⟨g, 0, none⟩) ws.length cap) := by
  obtain ⟨h1, h2, ⟨g', b1, b2, b3, b4, b5⟩, h4, h5⟩ := h
  have hgg : g' = g := by
    have h := (b3.cell 1 rfl).symm.trans hg
    simpa using h
  subst hgg
  have hc := (hb.cell (p := ⟨p, 1, none⟩) hp).trans hg
  refine ⟨⟨h1, h2.below hb hf, ⟨g', b1, b2, b3.below hb hp, ownsRow_low b4 hb (fun k hk => ?_), b5⟩, h4, fun x hx => ?_⟩, hc⟩
  · simp [Value.ownBlock] at hk
    omega
  · refine h5 x ?_
    rw [← hb.cell (p := ⟨p, 1, none⟩) hp]
    exact hx

/-- L tells the locations of the data bs -/
def HasL (bs : List Int) (L : Nat → Nat) : Prop := ∃ r1 r2 r3 r4, LocIs r1 r2 r3 r4 L ∧ BaseIs bs r1 r2 r3 r4
theorem hasl_ex (bs : List Int) (h : bs.length ≤ 100000) : ∃ L, HasL bs L := by
  obtain ⟨r1, r2, r3, r4, L, h1, h2⟩ := locs_ex bs h
  exact ⟨L, r1, r2, r3, r4, h1, h2⟩

/-- the steps: each piece of data is added, then each is tested -/
def neverRows (dl : List (Value × List Int)) : List (List Value) := dl.map (fun p => [.int .i64 1, p.1]) ++ dl.map (fun p => [.int .i64 2, p.1])
theorem never_len (dl : List (Value × List Int)) : (neverRows dl).length = 2 * dl.length := by simp [neverRows]; omega
theorem never_add (dl : List (Value × List Int)) (i : Nat) (hi : i < dl.length) : (neverRows dl)[i]? = some [.int .i64 1, (dl[i]).1] := by
  unfold neverRows
  rw [List.getElem?_append_left (by simpa using hi)]
  simp [hi]
theorem never_test (dl : List (Value × List Int)) (i : Nat) (h1 : dl.length ≤ i) (hi : i - dl.length < dl.length) : (neverRows dl)[i]? = some [.int .i64 2, (dl[i - dl.length]).1] := by
  unfold neverRows
  rw [List.getElem?_append_right (by simpa using h1)]
  simp [hi]

theorem hits_self (L : Nat → Nat) (m k x : Nat) (hx : x < k) : hits L m k (L x % m) = true := by
  unfold hits
  rw [List.any_eq_true]
  exact ⟨x, List.mem_range.2 hx, by simp⟩

def RunLoop (LL : Nat → Nat → Nat) (m k N n f p g cap Z : Nat) (w : World) (c : Nat) (out idx : Value) (wr : World) : Prop :=
  ∃ (i : Nat) (ws : List Nat) (q : Option Addr) (oc : Nat) (bl : List Bool), out = .slice q i oc ∧ idx = .int .i64 (i : Int) ∧ i + c = 2 * n ∧ wr.ownsRow Z 4 1 (.slice q i oc) i (bools bl) ∧
    Bf (w.heap.size + 1) wr f p m k m ws cap ∧ ws.length = N ∧ wr.cell? ⟨p, 1, none⟩ = some (.slice (some ⟨g, 0, none⟩) ws.length cap) ∧ (∀ j, j < n → j < i → ∀ x, x < k → Bsm.bit ws (LL j x % m) = true) ∧ (∀ j, n ≤ j → j < i → bl[j]? = some true) ∧
    Blk wr w.heap.size 39 #[.int .u64 0, .int .u64 0, .slice none 0 0] ∧ Below w.heap.size w wr ∧ Z ≤ wr.heap.size

set_option maxRecDepth 100000 in
set_option maxHeartbeats 8000000 in
theorem blrun_never (dl : List (Value × List Int)) (LL : Nat → Nat → Nat) (m k n : Nat) (v : Value) (w : World) (hn : dl.length = n) (hn9 : n ≤ 1000) (hd : ∀ p ∈ dl, Sl w p.1 (u8s p.2))
    (hLL : ∀ j (h : j < dl.length), HasL (dl[j]).2 (LL j)) (hv : Rw 2 w v (neverRows dl)) (hm1 : 1 ≤ m) (hm9 : m ≤ 1000) (hk1 : 1 ≤ k) (hk9 : k ≤ 1000) :
    Calls Try.prog 34 #[.int .u64 (m : Int), .int .u64 (k : Int), v] w fun e w' => ∃ (v1 : Value) (a4 : Option Addr) (n4 c4 : Nat) (bl : List Bool), e = .returned (.tuple #[v1, .agg #[.int .u64 (m : Int), .int .u64 (k : Int), .slice a4 n4 c4]]) ∧ Sl w' v1 (bools bl) ∧ bl.length = 2 * n ∧ (∀ j, n ≤ j → j < 2 * n → bl[j]? = some true) ∧ Below w.heap.size w w' := by
  obtain ⟨va, vn, vc, rfl, hvl, hvc, hvm, hvr⟩ := hv
  rw [never_len, hn] at hvl
  subst hvl
  have HN := Lib.hid hn
  have HD := Lib.hid hd
  have HLL := Lib.hid hLL
  have HVR := Lib.hid hvr
  have hmx : max 1 m = m := by omega
  have hkx : max 1 k = k := by omega
  have HMX := Lib.hid hmx
  have HKX := Lib.hid hkx
  clear hn hd hLL hvr hvc hvm hmx hkx
  go_enter Try.func34, Try.ntmps34
  go_wp2_with fail
  refine (flnew_any m k _ (by omega) (by omega)).mono ?_
  rintro e w1 ⟨f, p, rfl, hbf, hb1⟩
  rw [HMX.out, HKX.out] at hbf
  obtain ⟨g, hg1, hg2, hg3, hg4, hg5⟩ := hbf.2.2.1.wordsAt
  have HBF := Lib.hid hbf
  have hz0 : (w.alloc (.cells #[.int .u64 0, .int .u64 0, .slice none 0 0] 39)).heap.size = w.heap.size + 1 := by simp
  have hfz : f < w1.heap.size := hbf.2.1.lt
  have HLT : Hid (f < w1.heap.size ∧ p < w1.heap.size ∧ g < w1.heap.size) := Lib.hid ⟨hfz, hg5, hg3⟩
  have HG1 := Lib.hid hg1
  have HT1 : Hid (Below w.heap.size w w1) := Lib.hid (((Below.refl _ _).alloc (Nat.le_refl _) _).trans (hb1.mono (by simp)))
  have HZ1 := Lib.hid ((Blk.new w 39 #[.int .u64 0, .int .u64 0, .slice none 0 0]).below hb1 (by simp))
  have HLT2 : Hid (w.heap.size < w1.heap.size) := Lib.hid (by have := hb1.size; omega)
  clear hbf hg1 hg2 hg3 hg4 hg5 hb1 hfz hz0
  go_wp2_with fail
  go_loopg [9, 18] (2 * n) (fun c out idx wr => RunLoop LL m k ((m + 63) / 64) n f p g ((m + 63) / 64) w1.heap.size w c out idx wr)
  case atStart =>
    have hbf := HBF.out
    simp only [World.size_alloc] at hbf
    refine ⟨0, _, none, 0, [], rfl, rfl, by omega, World.ownsRow_nil _ _ _ _, hbf, by simp, HG1.out, fun j _ h => by omega, fun j _ h => by omega, HZ1.out, HT1.out, Nat.le_refl _⟩
  case round =>
    obtain ⟨i, ws, q, oc, bl, rfl, rfl, hic, hown, hbf, hwn, hgc, hbits, hbl, hres, hbel, hzz⟩ := hrel
    have HO := Lib.hid hown
    have HBF2 := Lib.hid hbf
    have HWN := Lib.hid hwn
    have HGC := Lib.hid hgc
    have HBITS := Lib.hid hbits
    have HBL := Lib.hid hbl
    have HRES := Lib.hid hres
    have HBEL := Lib.hid hbel
    have HZZ := Lib.hid hzz
    clear hown hbf hwn hgc hbits hbl hres hbel hzz
    by_cases hi : i < 2 * n
    · cases gk with
      | zero => omega
      | succ c =>
        obtain ⟨b, off, rfl, hcell⟩ := HVR.out (by omega)
        have hmx1 : i + 1 ≤ maxLen := by unfold maxLen; omega
        by_cases hin : i < n
        · have hil : i < dl.length := by rw [HN.out]; exact hin
          have e0 := hcell i _ (never_add dl i hil) 0 _ rfl
          have e1 := hcell i _ (never_add dl i hil) 1 _ rfl
          rw [← HBEL.out.cell (World.block_lt_of_cell? w _ e0)] at e0
          rw [← HBEL.out.cell (World.block_lt_of_cell? w _ e1)] at e1
          have hsl := HD.out _ (List.getElem_mem hil)
          obtain ⟨r1, r2, r3, r4, hL, hbase⟩ := HLL.out i hil
          have hLi : ∃ L, L = LL i := ⟨_, rfl⟩
          obtain ⟨L, hLe⟩ := hLi
          rw [← hLe] at hL
          obtain ⟨y, hy⟩ : ∃ y, y = dl[i]'hil := ⟨_, rfl⟩
          rw [← hy] at e1 hsl hbase
          obtain ⟨yv, bs⟩ := y
          simp only [] at e1 hsl hbase
          have hsl0 := hsl
          obtain ⟨a2, n2, c2, rfl, _⟩ := hsl0
          obtain ⟨W5, hW5⟩ : ∃ W5, W5 = wr.alloc (.cells #[.int .i64 1, .slice a2 n2 c2] 65) := ⟨_, rfl⟩
          have hb5 : Below wr.heap.size wr W5 := by rw [hW5]; exact (Below.refl _ _).alloc (Nat.le_refl _) _
          have hz5 : W5.heap.size = wr.heap.size + 1 := by rw [hW5]; simp
          have hbt := Bt.of_sl ((hsl.below rfl HBEL.out).below rfl hb5)
          have hbf5 := HBF2.out.below hb5
          have hg5 := (hb5.cell (p := ⟨p, 1, none⟩) (Nat.lt_of_lt_of_le HLT.out.2.1 HZZ.out)).trans HGC.out
          have HADD := Lib.hid (add_far bs r1 r2 r3 r4 L hL hbase _ f p m k m ws _ a2 n2 c2 W5 hbf5 hbt (by omega) (Nat.le_refl _) (by rw [HWN.out]; omega) (by omega) (by omega) g hg5)
          have HO5 := Lib.hid (ownsRow_below HO.out hb5)
          have HR5 := Lib.hid (HRES.out.below hb5 (by have := HRES.out.lt; omega))
          have HT5 := Lib.hid (HBEL.out.trans (hb5.mono HBEL.out.size))
          have HZ5 := Lib.hid hz5
          have HLE := Lib.hid hLe
          have e0' : wr.cell? ⟨b, off + i * 2, none⟩ = some (.int .i64 1) := by simpa using e0
          have e1' : wr.cell? ⟨b, off + i * 2 + 1, none⟩ = some (.slice a2 n2 c2) := by rw [Nat.add_assoc]; exact e1
          subst hW5
          clear e0 e1 hsl hbase hL hy hcell hb5 hz5 hbt hbf5 hg5 hLe
          go_wp2_with fail
          refine HADD.out.mono ?_
          rintro e w6 ⟨rfl, ws6, k1, k2, k3, k4, k5, k6, k7⟩
          have HBF6 := Lib.hid k1
          have HWN6 : Hid (ws6.length = (m + 63) / 64) := Lib.hid (by rw [k2]; exact HWN.out)
          have HGC6 : Hid (w6.cell? ⟨p, 1, none⟩ = some (.slice (some ⟨g, 0, none⟩) ws6.length ((m + 63) / 64))) := Lib.hid (by rw [k2]; exact k7)
          have HBIT6 := Lib.hid k3
          have HO6 := Lib.hid (HO5.out.kept k6 (by
            cases q with
            | none => exact .inl rfl
            | some a =>
              refine .inr ?_
              have := (HO5.out.lt a.block rfl).1
              have := HLT.out.2.2
              simp only [Value.ownBlock]
              intro e
              injection e with e
              omega))
          have HR6 := Lib.hid (HR5.out.below k4 (by omega))
          have HT6 := Lib.hid (HT5.out.trans (k4.mono (by omega)))
          have HZ6 : Hid (w1.heap.size ≤ w6.heap.size) := Lib.hid (by have := HZ5.out; have := HZZ.out; omega)
          clear k1 k2 k3 k4 k5 k6 k7 hmx1
          have hmx1 : i + 1 ≤ maxLen := by unfold maxLen; omega
          go_wp2_with (at_builtin; refine wpList_append1 rfl _ _ 32 rfl w1.heap.size 4 (.bool false) 1 Try.underlying32 info_bool rfl _ i (bools bl) rfl HO6.out _ rfl rfl hmx1 (by omega) HZ6.out ?_; intro g7 cap7 w7 hown7 hg7 hb7)
          have hlow := HBF6.out.low HGC6.out HLT.out.1 HLT.out.2.1 HLT.out.2.2 hb7
          go_roundg c
          case measure => omega
          case rel =>
            refine ⟨i + 1, _, _, _, bl ++ [false], rfl, by go_num, by omega, ?_, hlow.1, HWN6.out, hlow.2, ?_, ?_, HR6.out.below hb7 (by have := HLT2.out; omega), HT6.out.trans (hb7.mono (by have := HLT2.out; omega)), Nat.le_trans HZ6.out hb7.size⟩
            · rw [bools_app]
              exact hown7
            · intro j hj hji x hx
              rw [HBIT6.out]
              by_cases hjx : j < i
              · rw [HBITS.out j hj hjx x hx]; rfl
              · obtain rfl : j = i := by omega
                rw [← HLE.out, hits_self L m k x hx, Bool.or_true]
            · intro j hj hji
              omega
        · have hil : i - dl.length < dl.length := by rw [HN.out]; omega
          have hnl : dl.length ≤ i := by rw [HN.out]; omega
          have e0 := hcell i _ (never_test dl i hnl hil) 0 _ rfl
          have e1 := hcell i _ (never_test dl i hnl hil) 1 _ rfl
          rw [← HBEL.out.cell (World.block_lt_of_cell? w _ e0)] at e0
          rw [← HBEL.out.cell (World.block_lt_of_cell? w _ e1)] at e1
          have hsl := HD.out _ (List.getElem_mem hil)
          obtain ⟨r1, r2, r3, r4, hL, hbase⟩ := HLL.out _ hil
          have hLi : ∃ L, L = LL (i - dl.length) := ⟨_, rfl⟩
          obtain ⟨L, hLe⟩ := hLi
          rw [← hLe] at hL
          obtain ⟨y, hy⟩ : ∃ y, y = dl[i - dl.length]'hil := ⟨_, rfl⟩
          rw [← hy] at e1 hsl hbase
          obtain ⟨yv, bs⟩ := y
          simp only [] at e1 hsl hbase
          have hsl0 := hsl
          obtain ⟨a2, n2, c2, rfl, _⟩ := hsl0
          obtain ⟨W5, hW5⟩ : ∃ W5, W5 = wr.alloc (.cells #[.int .i64 2, .slice a2 n2 c2] 65) := ⟨_, rfl⟩
          have hb5 : Below wr.heap.size wr W5 := by rw [hW5]; exact (Below.refl _ _).alloc (Nat.le_refl _) _
          have hz5 : W5.heap.size = wr.heap.size + 1 := by rw [hW5]; simp
          have hbt := Bt.of_sl ((hsl.below rfl HBEL.out).below rfl hb5)
          have hbf5 := HBF2.out.below hb5
          have hg5 := (hb5.cell (p := ⟨p, 1, none⟩) (Nat.lt_of_lt_of_le HLT.out.2.1 HZZ.out)).trans HGC.out
          have hyes : tests L m k ws = true := tests_all L m k ws (fun x hx => by rw [hLe]; exact HBITS.out _ (by rw [HN.out]; omega) (by rw [HN.out]; omega) x hx)
          have htest := fltest_any bs r1 r2 r3 r4 L hL hbase _ f p m k m ws _ a2 n2 c2 W5 hbf5 hbt (by omega) (Nat.le_refl _) (by rw [HWN.out]; omega) (by omega) (by omega)
          rw [hyes] at htest
          have HTEST := Lib.hid htest
          have HBF5 := Lib.hid hbf5
          have HG5 := Lib.hid hg5
          have HO5 := Lib.hid (ownsRow_below HO.out hb5)
          have HR5 := Lib.hid (HRES.out.below hb5 (by have := HRES.out.lt; omega))
          have HT5 := Lib.hid (HBEL.out.trans (hb5.mono HBEL.out.size))
          have HZ5 := Lib.hid hz5
          have e0' : wr.cell? ⟨b, off + i * 2, none⟩ = some (.int .i64 2) := by simpa using e0
          have e1' : wr.cell? ⟨b, off + i * 2 + 1, none⟩ = some (.slice a2 n2 c2) := by rw [Nat.add_assoc]; exact e1
          subst hW5
          clear e0 e1 hsl hbase hL hy hcell hb5 hz5 hbt hbf5 hg5 hLe hyes htest hil hnl
          go_wp2_with fail
          refine HTEST.out.mono ?_
          rintro e w6 ⟨rfl, k1⟩
          have HBF6 := Lib.hid (HBF5.out.below k1)
          have HWN6 := HWN
          have HGC6 := Lib.hid ((k1.cell (p := ⟨p, 1, none⟩) (by have := HZ5.out; have := HZZ.out; have := HLT.out.2.1; simp only []; omega)).trans HG5.out)
          have HO6 := Lib.hid (ownsRow_below HO5.out k1)
          have HR6 := Lib.hid (HR5.out.below k1 HR5.out.lt)
          have HT6 := Lib.hid (HT5.out.trans (k1.mono HT5.out.size))
          have HZ6 : Hid (w1.heap.size ≤ w6.heap.size) := Lib.hid (by have := HZ5.out; have := HZZ.out; have := k1.size; omega)
          clear k1
          go_wp2_with (at_builtin; refine wpList_append1 rfl _ _ 32 rfl w1.heap.size 4 (.bool false) 1 Try.underlying32 info_bool rfl _ i (bools bl) rfl HO6.out _ rfl rfl hmx1 (by omega) HZ6.out ?_; intro g7 cap7 w7 hown7 hg7 hb7)
          have hlow := HBF6.out.low HGC6.out HLT.out.1 HLT.out.2.1 HLT.out.2.2 hb7
          go_roundg c
          case measure => omega
          case rel =>
            refine ⟨i + 1, _, _, _, bl ++ [true], rfl, by go_num, by omega, ?_, hlow.1, HWN6.out, hlow.2, ?_, ?_, HR6.out.below hb7 (by have := HLT2.out; omega), HT6.out.trans (hb7.mono (by have := HLT2.out; omega)), Nat.le_trans HZ6.out hb7.size⟩
            · rw [bools_app]
              exact hown7
            · intro j hj hji x hx
              exact HBITS.out j hj (by omega) x hx
            · intro j hj hji
              have hlb : bl.length = i := by
                have h := HO.out.1
                rw [bools_len] at h
                omega
              by_cases hjx : j < i
              · rw [List.getElem?_append_left (by omega)]
                exact HBL.out j hj hjx
              · obtain rfl : j = i := by omega
                rw [List.getElem?_append_right (by omega), hlb, Nat.sub_self]
                rfl
    · obtain ⟨I, hI⟩ : ∃ I, I = 2 * n := ⟨_, rfl⟩
      obtain rfl : i = I := by omega
      have HI := Lib.hid hI
      have hd : decide ((i : Int) < 2 * (n : Int)) = false := by simp; omega
      clear hI hi hic
      go_wp2_with fail
      refine (told_any _ f p m k _ ws _ wr HBF2.out (by rw [HWN.out]; omega)).mono ?_
      rintro e w8 ⟨v8, rfl, hof, hb8⟩
      have HO8 := Lib.hid (ownsRow_below HO.out hb8)
      obtain ⟨a4, n4, c4, rfl, _⟩ := hof
      have kz := HRES.out.below hb8 HRES.out.lt
      have q0 : w8.cell? ⟨w.heap.size, 0, none⟩ = some (.int .u64 0) := kz.cell 0 rfl
      have q1 : w8.cell? ⟨w.heap.size, 1, none⟩ = some (.int .u64 0) := kz.cell 1 rfl
      have q2 : w8.cell? ⟨w.heap.size, 2, none⟩ = some (.slice none 0 0) := kz.cell 2 rfl
      have y0 := kz.free 0
      have y1 := kz.free 1
      have y2 := kz.free 2
      have n0 := kz.lt
      have HT8 := Lib.hid (HBEL.out.trans (hb8.mono HBEL.out.size))
      clear hb8 kz
      go_wp2_with fail
      refine bodyPost_ret (v := .tuple #[.slice q i oc, .agg #[.int .u64 (m : Int), .int .u64 (k : Int), .slice a4 n4 c4]]) (by simp [results, Try.results34, go_sem, *]) rfl ?_
      have hlb : bl.length = i := by
        have h := HO.out.1
        rw [bools_len] at h
        omega
      have hlt2 := HLT2.out
      refine ⟨_, a4, n4, c4, bl, rfl, Sl.of_owns (ownsRow_setCell_below (ownsRow_setCell_below (ownsRow_setCell_below HO8.out (by simp only []; omega) _) (by simp only []; omega) _) (by simp only []; omega) _), by rw [hlb]; exact HI.out, fun j h1 h2 => HBL.out j h1 (by rw [HI.out]; exact h2), ((HT8.out.setCell (by simp) _).setCell (by simp) _).setCell (by simp) _⟩
end Go.Proofs.Ytbcbkieebelleaa
