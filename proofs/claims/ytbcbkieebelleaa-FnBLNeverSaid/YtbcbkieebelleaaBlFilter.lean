/- Walks of bitset.From, bloom.FromWithM, impl.filter, laws.blFilter and spec.BLOr. -/
import Derived.Test.YtbcbkieebelleaaBlSame
import Derived.Deep.RegionHeld3
namespace Go.Proofs.Ytbcbkieebelleaa
set_option linter.unusedVariables false
open Go.RowKit

set_option maxHeartbeats 400000 in
theorem from_any (B : Nat) (a : Option Addr) (n cap : Nat) (ws : List Nat) (w : World) (hown : w.ownsRow B 52 1 (.slice a n cap) n (u64s ws)) (hn : ws.length = n) (h0 : 0 < n) (h9 : n ≤ 1000) (hx : ∀ x ∈ ws, x < 18446744073709551616) (hB : B ≤ w.heap.size) :
    Calls Try.prog 79 #[.slice a n cap] w fun e w' => ∃ p, e = .returned (.pointer (some ⟨p, 0, none⟩)) ∧ w.heap.size ≤ p ∧ Bs B w' p (64 * n) ws cap ∧ Below w.heap.size w w' := by
  have hm64 : (n : Int) * 64 = ((64 * n : Nat) : Int) := by push_cast; omega
  have HM := Lib.hid hm64
  have HO := Lib.hid hown
  have HX := Lib.hid hx
  have HN := Lib.hid hn
  clear hown hx hm64 hn
  go_enter Try.func79, Try.ntmps79
  go_wp2_with fail
  rw [HM.out]
  refine (fromlen_any (64 * n) a n cap _ (by omega) (by omega) (by omega)).mono ?_
  rintro e w1 ⟨p, rfl, hp, hpl, hblk, hb1⟩
  have HBK := Lib.hid hblk
  have HB1 := Lib.hid hb1
  clear hblk hb1
  go_wp2_with fail
  go_ret
  obtain ⟨g, rfl, hg⟩ := ownsRow_some HO.out h0
  have hgl := (HO.out.lt g rfl).2
  have hnn := HN.out
  subst hnn
  exact ⟨p, rfl, hp, ⟨g, by omega, by omega, HBK.out, ownsRow_below HO.out HB1.out, HX.out⟩, HB1.out⟩

set_option maxHeartbeats 400000 in
theorem fromm_any (B m k : Nat) (a : Option Addr) (n cap : Nat) (ws : List Nat) (w : World) (hown : w.ownsRow B 52 1 (.slice a n cap) n (u64s ws)) (hn : ws.length = n) (h0 : 0 < n) (h9 : n ≤ 1000) (hx : ∀ x ∈ ws, x < 18446744073709551616) (hB : B ≤ w.heap.size) :
    Calls Try.prog 67 #[.slice a n cap, .int .u64 (m : Int), .int .u64 (k : Int)] w fun e w' => ∃ f p, e = .returned (.pointer (some ⟨f, 0, none⟩)) ∧ w.heap.size ≤ f ∧ Bf B w' f p m k (64 * n) ws cap ∧ Below w.heap.size w w' := by
  have HO := Lib.hid hown
  have HX := Lib.hid hx
  have HN := Lib.hid hn
  clear hown hx hn
  go_enter Try.func67, Try.ntmps67
  go_wp2_with fail
  refine (from_any B a n cap ws _ HO.out HN.out h0 h9 HX.out hB).mono ?_
  rintro e w1 ⟨p, rfl, hp, hbs, hb1⟩
  have HBS := Lib.hid hbs
  have HB1 := Lib.hid hb1
  clear hbs hb1
  go_wp2_with fail
  go_ret
  have hs := HB1.out.size
  have hpl : p < w1.heap.size := by obtain ⟨_, _, _, hk, _⟩ := HBS.out; exact hk.lt
  refine ⟨w1.heap.size, p, rfl, hs, ⟨by omega, Blk.new _ _ _, HBS.out.below ((Below.refl _ _).alloc (Nat.le_refl _) _), by omega, fun g hg e => ?_⟩, HB1.out.alloc hs _⟩
  obtain ⟨g', _, _, hk, ho, _⟩ := HBS.out
  have c1 := (hk.alloc (.cells #[.int .u64 (m : Int), .int .u64 (k : Int), .pointer (some ⟨p, 0, none⟩)] 99)).cell 1 rfl
  rw [c1] at hg
  have hgg : g' = g := by injection hg with hg; injection hg with hg; injection hg with hg; injection hg
  have := (ho.lt g' rfl).2
  omega

theorem words_some (v : Value) (ws : List Nat) (w : World) (hv : Sl w v (u64s ws)) (h0 : 0 < ws.length) (hn : ws.length ≤ 1000000) :
    Calls Try.prog 63 #[v] w fun e w' => ∃ g cap, e = .returned (.slice (some ⟨g, 0, none⟩) ws.length cap) ∧ w'.ownsRow w.heap.size 52 1 (.slice (some ⟨g, 0, none⟩) ws.length cap) ws.length (u64s ws) ∧ Below w.heap.size w w' :=
  (words_any v ws w hv hn).mono fun e w' ⟨v', he, ho, hb⟩ => by
    obtain ⟨a, n, cap, rfl, hln, _⟩ := Sl.of_owns ho
    rw [u64s_len] at hln
    subst hln
    obtain ⟨g, rfl, _⟩ := ownsRow_some ho h0
    exact ⟨g, cap, he, ho, hb⟩

set_option maxRecDepth 100000 in
set_option maxHeartbeats 2000000 in
theorem filter_any (v : Value) (m k : Nat) (ws : List Nat) (w : World) (hv : Fil w v m k ws) (h0 : 0 < ws.length) (h9 : ws.length ≤ 1000) :
    Calls Try.prog 45 #[v] w fun e w' => ∃ f p cap, e = .returned (.pointer (some ⟨f, 0, none⟩)) ∧ Bf w.heap.size w' f p m k (64 * ws.length) ws cap ∧ Below w.heap.size w w' := by
  obtain ⟨a, n, cap, rfl, hsl, hx⟩ := hv
  have hb0 : Below w.heap.size w ((w.alloc (.cells #[.int .u64 (m : Int), .int .u64 (k : Int), .slice a n cap] 39)).drew) := ((Below.refl _ _).alloc (Nat.le_refl _) _).drew
  have hsz : ((w.alloc (.cells #[.int .u64 (m : Int), .int .u64 (k : Int), .slice a n cap] 39)).drew).heap.size = w.heap.size + 1 := by show (w.alloc _).heap.size = _; simp
  have bk := (Blk.new w 39 #[.int .u64 (m : Int), .int .u64 (k : Int), .slice a n cap]).drew
  have c0 : ((w.alloc (.cells #[.int .u64 (m : Int), .int .u64 (k : Int), .slice a n cap] 39)).drew).cell? ⟨w.heap.size, 0, none⟩ = some (.int .u64 (m : Int)) := bk.cell 0 rfl
  have c1 : ((w.alloc (.cells #[.int .u64 (m : Int), .int .u64 (k : Int), .slice a n cap] 39)).drew).cell? ⟨w.heap.size, 1, none⟩ = some (.int .u64 (k : Int)) := bk.cell 1 rfl
  have c2 : ((w.alloc (.cells #[.int .u64 (m : Int), .int .u64 (k : Int), .slice a n cap] 39)).drew).cell? ⟨w.heap.size, 2, none⟩ = some (.slice a n cap) := bk.cell 2 rfl
  have HS := Lib.hid (hsl.below rfl hb0)
  have HSZ := Lib.hid hsz
  have HX := Lib.hid hx
  have HB0 := Lib.hid hb0
  have HC0 := Lib.hid c0
  have HC1 := Lib.hid c1
  have HC2 := Lib.hid c2
  clear hsl hx hb0 bk hsz c0 c1 c2
  go_enter Try.func45, Try.ntmps45
  go_wp2_with fail
  go_region_held3 (fun w' => w'.cell? ⟨w.heap.size, 0, none⟩ = some (.int .u64 (m : Int)) ∧ w'.cell? ⟨w.heap.size, 1, none⟩ = some (.int .u64 (k : Int)) ∧ w'.cell? ⟨w.heap.size, 2, none⟩ = some (.slice a n cap))
    ((first | go_keep | exact ⟨by assumption, by assumption, by assumption⟩))
    ((first
      | (go_at_call 63; (with_reducible refine Calls.mono (words_some _ ws ((w.alloc (.cells #[.int .u64 (m : Int), .int .u64 (k : Int), .slice a n cap] 39)).drew) HS.out h0 (by omega)) ?_); rintro e w1 ⟨g1, cap1, rfl, hown, hb1⟩; have HT1 := Lib.hid (HB0.out.trans (hb1.mono (by have := HSZ.out; omega))); have HZ1 : Hid (w.heap.size + 1 ≤ w1.heap.size) := (by have h1 := hb1.size; have h2 := HSZ.out; unfold Hid; omega); have HO1 := Lib.hid (ownsRow_weaken hown (B' := w.heap.size) (by have h2 := HSZ.out; omega)); have s0 := (hb1.cell (p := ⟨w.heap.size, 0, none⟩) (by have h2 := HSZ.out; simp only []; omega)).trans HC0.out; have s1 := (hb1.cell (p := ⟨w.heap.size, 1, none⟩) (by have h2 := HSZ.out; simp only []; omega)).trans HC1.out; have s2 := (hb1.cell (p := ⟨w.heap.size, 2, none⟩) (by have h2 := HSZ.out; simp only []; omega)).trans HC2.out; clear hown hb1)
      | (go_at_call 67; (with_reducible refine Calls.mono (fromm_any w.heap.size m k (some ⟨g1, 0, none⟩) ws.length cap1 ws w1 HO1.out rfl h0 h9 HX.out (by have := HZ1.out; omega)) ?_); rintro e w2 ⟨f2, p2, rfl, hf2, hbf, hb2⟩; have HBF := Lib.hid hbf; have HT2 := Lib.hid (HT1.out.trans (hb2.mono (by have := HZ1.out; omega))); have t0 := (hb2.cell (p := ⟨w.heap.size, 0, none⟩) (by have h2 := HZ1.out; simp only []; omega)).trans s0; have t1 := (hb2.cell (p := ⟨w.heap.size, 1, none⟩) (by have h2 := HZ1.out; simp only []; omega)).trans s1; have t2 := (hb2.cell (p := ⟨w.heap.size, 2, none⟩) (by have h2 := HZ1.out; simp only []; omega)).trans s2; clear hbf hb2)))
  all_goals
    go_wp2_with fail
    go_ret
    exact ⟨f2, p2, cap1, rfl, HBF.out, HT2.out⟩

theorem bits_zero_and (y : Int) : bits BinOp.and IntKind.u64 0 y = 0 := by
  show IntKind.u64.wrap ((BitVec.ofInt 64 0 &&& BitVec.ofInt 64 y).toNat : Int) = _
  have : BitVec.ofInt 64 0 &&& BitVec.ofInt 64 y = 0#64 := by
    apply BitVec.eq_of_getLsbD_eq
    intro i _
    simp
  rw [this]
  simp [IntKind.wrap, IntKind.bits, IntKind.signed]

theorem u64s_app0 (l : List Nat) : u64s (l ++ [0]) = u64s l ++ [.int .u64 0] := by simp [u64s]

/-- the loop of blFilter -/
def BlfLoop (m k N : Nat) (w : World) (c : Nat) (idx : Value) (wr : World) : Prop :=
  ∃ (i : Nat) (p : Option Addr) (n cap : Nat) (acc : List Nat), idx = .int .u64 (i : Int) ∧ i + c = N ∧ Blk wr w.heap.size 39 #[.int .u64 0, .int .u64 0, .slice none 0 0] ∧ Blk wr (w.heap.size + 1) 39 #[.int .u64 (m : Int), .int .u64 (k : Int), .slice p n cap] ∧
    wr.ownsRow (w.heap.size + 2) 52 1 (.slice p n cap) i (u64s acc) ∧ acc.length = i ∧ (∀ x ∈ acc, x < 18446744073709551616) ∧ Below w.heap.size w wr ∧ w.heap.size + 2 ≤ wr.heap.size

set_option maxRecDepth 100000 in
set_option maxHeartbeats 4000000 in
theorem blfilter_any (a b : Nat) (v : Value) (xs : List Nat) (w : World) (ha : a ≤ 65535) (hb : b ≤ 255) (hv : Sl w v (u64s xs)) (hx : ∀ x ∈ xs, x < 18446744073709551616) :
    Calls Try.prog 21 #[.int .u16 (a : Int), .int .u8 (b : Int), v] w fun e w' => ∃ (v' : Value) (ws : List Nat), e = .returned v' ∧ OwnFil w.heap.size w' v' (1 + a % 700) (1 + b % 8) ws ∧ ws.length = (1 + a % 700 + 63) / 64 ∧ Below w.heap.size w w' := by
  obtain ⟨ad, n, cap, rfl, hl, hc, hm, hr⟩ := hv
  rw [u64s_len] at hl
  obtain ⟨m, hmm⟩ : ∃ m, 1 + a % 700 = m := ⟨_, rfl⟩
  obtain ⟨k, hkk⟩ : ∃ k, 1 + b % 8 = k := ⟨_, rfl⟩
  obtain ⟨N, hNN⟩ : ∃ N, (m + 63) / 64 = N := ⟨_, rfl⟩
  rw [hmm, hkk, hNN]
  have e1 : (1 : Int) + (a : Int) % 700 = (m : Int) := by omega
  have e2 : (1 : Int) + (b : Int) % 8 = (k : Int) := by omega
  have e3 : ((m : Int) + 63) / 64 = (N : Int) := by omega
  have hm7 : m ≤ 700 := by omega
  have hm1 : 1 ≤ m := by omega
  have hN1 : 1 ≤ N := by omega
  have hN2 : N ≤ 11 := by omega
  have hNm : 64 * N ≤ m + 63 := by omega
  have hn64 : (n : Int) ≤ 9223372036854775807 := by unfold maxLen at hm; omega
  have HL := Lib.hid hl
  have HX := Lib.hid hx
  clear hl hx hc hm hmm hkk hNN
  go_enter Try.func21, Try.ntmps21
  go_wp2_with fail
  go_loopg [8] N (fun c idx wr => BlfLoop m k N w c idx wr)
  case atStart =>
    refine ⟨0, none, 0, 0, [], rfl, by omega, (Blk.new _ _ _).alloc _, ?_, World.ownsRow_nil _ _ _ _, rfl, by simp, ((Below.refl _ _).alloc (Nat.le_refl _) _).alloc (by simp) _, by simp⟩
    have h := Blk.new (w.alloc (.cells #[.int .u64 0, .int .u64 0, .slice none 0 0] 39)) 39 #[.int .u64 (m : Int), .int .u64 (k : Int), .slice none 0 0]
    simpa using h
  case round =>
    obtain ⟨i, p, n2, cap2, acc, rfl, hic, hres, hblk, hown, hacc, hlt, hbel, hsz⟩ := hrel
    have c0 : wr.cell? ⟨w.heap.size + 1, 0, none⟩ = some (.int .u64 (m : Int)) := hblk.cell 0 rfl
    have c1 : wr.cell? ⟨w.heap.size + 1, 1, none⟩ = some (.int .u64 (k : Int)) := hblk.cell 1 rfl
    have c2 : wr.cell? ⟨w.heap.size + 1, 2, none⟩ = some (.slice p n2 cap2) := hblk.cell 2 rfl
    have f2 := hblk.free 2
    have HRES := Lib.hid hres
    have HBLK := Lib.hid hblk
    have HO := Lib.hid hown
    have HACC := Lib.hid hacc
    have HLT := Lib.hid hlt
    have HBEL := Lib.hid hbel
    clear hres hblk hown hacc hlt hbel
    by_cases hi : i < N
    · cases gk with
      | zero => omega
      | succ c =>
        have hi64 : (64 : Int) * (i : Int) ≤ (m : Int) := by omega
        have hmx : i + 1 ≤ maxLen := by unfold maxLen; omega
        obtain ⟨l, hl⟩ : ∃ l : Nat, m - 64 * i = l := ⟨_, rfl⟩
        have e4 : (m : Int) - 64 * (i : Int) = (l : Int) := by omega
        obtain ⟨P, hP⟩ : ∃ P : Nat, 2 ^ l = P := ⟨_, rfl⟩
        clear hl
        by_cases hin : i < n
        · obtain ⟨bq, off, rfl, hcell⟩ := hr (by omega)
          have h1 := hcell i _ (u64s_at xs i (by rw [HL.out]; exact hin))
          rw [← HBEL.out.cell (World.block_lt_of_cell? w _ h1)] at h1
          have hXl : xs.getD i 0 < 18446744073709551616 := HX.out _ (by rw [List.getD_eq_getElem?_getD, List.getElem?_eq_getElem (by rw [HL.out]; exact hin)]; simp)
          obtain ⟨X, hXX⟩ : ∃ X, xs.getD i 0 = X := ⟨_, rfl⟩
          rw [hXX] at h1 hXl
          clear hr hcell hXX
          by_cases hl64 : l < 64
          · have hP1 : 1 ≤ P := by rw [← hP]; exact Nat.two_pow_pos l
            have hPl : P < 18446744073709551616 := by
              rw [← hP]
              have : 2 ^ l < 2 ^ 64 := Nat.pow_lt_pow_right (by omega) hl64
              simpa using this
            have hpw := pow_wrap l hl64
            rw [hP] at hpw
            have hs1 : (P : Int) - 1 = ((P - 1 : Nat) : Int) := by omega
            have hs2 : IntKind.u64.wrap ((P - 1 : Nat) : Int) = ((P - 1 : Nat) : Int) := by rw [IntKind.wrap_u64]; omega
            have hand := u64_and_nat X (P - 1) hXl (by omega)
            have hXl2 : X &&& (P - 1) < 18446744073709551616 := Nat.lt_of_le_of_lt Nat.and_le_left hXl
            obtain ⟨Q, hQ⟩ : ∃ Q, X &&& (P - 1) = Q := ⟨_, rfl⟩
            rw [hQ] at hand hXl2
            clear hP hPl hXl hQ
            have hXl := hXl2
            clear hXl2
            have HXL := Lib.hid hXl
            clear hXl
            go_wp2_with (at_builtin; refine wpList_append1 rfl _ _ 37 rfl (w.heap.size + 2) 52 (.int .u64 0) 8 Try.underlying37 info_w64 rfl _ i (u64s acc) rfl HO.out _ rfl rfl hmx (by omega) hsz ?_; intro g cap1 w1 hown1 hg1 hb1; have hz1 := hb1.size; have q2 : w1.cell? ⟨w.heap.size + 1, 2, none⟩ = some (.slice p n2 cap2) := (hb1.cell (p := ⟨w.heap.size + 1, 2, none⟩) (by simp)).trans c2; have r2 : w1.frozen? ⟨w.heap.size + 1, 2, none⟩ = false := (hb1.frozen (p := ⟨w.heap.size + 1, 2, none⟩) (by simp)).trans f2)
            go_roundg c
            case measure => omega
            case rel =>
              rw [← u64s_append] at hown1
              have hblk2 := (HBLK.out.below hb1 (by omega)).set 2 (.slice (some ⟨g, 0, none⟩) (i + 1) cap1)
              refine ⟨i + 1, some ⟨g, 0, none⟩, i + 1, cap1, acc ++ [Q], by go_num, by omega, ((HRES.out.below hb1 (by omega)).other (by simp) _), hblk2, ownsRow_setCell_below hown1 (by simp) _, by rw [List.length_append, HACC.out]; rfl, fun x hx => ?_, (HBEL.out.trans (hb1.mono (by omega))).setCell (by simp) _, by simp [World.setCell]; omega⟩
              rcases List.mem_append.1 hx with h | h
              · exact HLT.out x h
              · rw [List.mem_singleton.1 h]; exact HXL.out
          · have hl6 : decide ((l : Int) < 64) = false := by simp; omega
            clear hP
            have HXL := Lib.hid hXl
            clear hXl
            go_wp2_with (at_builtin; refine wpList_append1 rfl _ _ 37 rfl (w.heap.size + 2) 52 (.int .u64 0) 8 Try.underlying37 info_w64 rfl _ i (u64s acc) rfl HO.out _ rfl rfl hmx (by omega) hsz ?_; intro g cap1 w1 hown1 hg1 hb1; have hz1 := hb1.size; have q2 : w1.cell? ⟨w.heap.size + 1, 2, none⟩ = some (.slice p n2 cap2) := (hb1.cell (p := ⟨w.heap.size + 1, 2, none⟩) (by simp)).trans c2; have r2 : w1.frozen? ⟨w.heap.size + 1, 2, none⟩ = false := (hb1.frozen (p := ⟨w.heap.size + 1, 2, none⟩) (by simp)).trans f2)
            go_roundg c
            case measure => omega
            case rel =>
              rw [← u64s_append] at hown1
              have hblk2 := (HBLK.out.below hb1 (by omega)).set 2 (.slice (some ⟨g, 0, none⟩) (i + 1) cap1)
              refine ⟨i + 1, some ⟨g, 0, none⟩, i + 1, cap1, acc ++ [X], by go_num, by omega, ((HRES.out.below hb1 (by omega)).other (by simp) _), hblk2, ownsRow_setCell_below hown1 (by simp) _, by rw [List.length_append, HACC.out]; rfl, fun x hx => ?_, (HBEL.out.trans (hb1.mono (by omega))).setCell (by simp) _, by simp [World.setCell]; omega⟩
              rcases List.mem_append.1 hx with h | h
              · exact HLT.out x h
              · rw [List.mem_singleton.1 h]; exact HXL.out
        · have hin2 : decide ((i : Int) < (n : Int)) = false := by simp; omega
          obtain ⟨X, hX0⟩ : ∃ X : Nat, X = 0 := ⟨_, rfl⟩
          have hXl : X < 18446744073709551616 := by omega
          clear hr
          by_cases hl64 : l < 64
          · subst hX0
            have hP1 := Nat.two_pow_pos l
            have hz : ∀ y : Int, bits BinOp.and IntKind.u64 0 y = 0 := bits_zero_and
            clear hP
            have HXL := Lib.hid hXl
            clear hXl
            go_wp2_with (at_builtin; refine wpList_append1 rfl _ _ 37 rfl (w.heap.size + 2) 52 (.int .u64 0) 8 Try.underlying37 info_w64 rfl _ i (u64s acc) rfl HO.out _ rfl rfl hmx (by omega) hsz ?_; intro g cap1 w1 hown1 hg1 hb1; have hz1 := hb1.size; have q2 : w1.cell? ⟨w.heap.size + 1, 2, none⟩ = some (.slice p n2 cap2) := (hb1.cell (p := ⟨w.heap.size + 1, 2, none⟩) (by simp)).trans c2; have r2 : w1.frozen? ⟨w.heap.size + 1, 2, none⟩ = false := (hb1.frozen (p := ⟨w.heap.size + 1, 2, none⟩) (by simp)).trans f2)
            go_roundg c
            case measure => omega
            case rel =>
              rw [← u64s_app0] at hown1
              have hblk2 := (HBLK.out.below hb1 (by omega)).set 2 (.slice (some ⟨g, 0, none⟩) (i + 1) cap1)
              refine ⟨i + 1, some ⟨g, 0, none⟩, i + 1, cap1, acc ++ [0], by go_num, by omega, ((HRES.out.below hb1 (by omega)).other (by simp) _), hblk2, ownsRow_setCell_below hown1 (by simp) _, by rw [List.length_append, HACC.out]; rfl, fun x hx => ?_, (HBEL.out.trans (hb1.mono (by omega))).setCell (by simp) _, by simp [World.setCell]; omega⟩
              rcases List.mem_append.1 hx with h | h
              · exact HLT.out x h
              · rw [List.mem_singleton.1 h]; exact HXL.out
          · have hl6 : decide ((l : Int) < 64) = false := by simp; omega
            subst hX0
            clear hP
            have HXL := Lib.hid hXl
            clear hXl
            go_wp2_with (at_builtin; refine wpList_append1 rfl _ _ 37 rfl (w.heap.size + 2) 52 (.int .u64 0) 8 Try.underlying37 info_w64 rfl _ i (u64s acc) rfl HO.out _ rfl rfl hmx (by omega) hsz ?_; intro g cap1 w1 hown1 hg1 hb1; have hz1 := hb1.size; have q2 : w1.cell? ⟨w.heap.size + 1, 2, none⟩ = some (.slice p n2 cap2) := (hb1.cell (p := ⟨w.heap.size + 1, 2, none⟩) (by simp)).trans c2; have r2 : w1.frozen? ⟨w.heap.size + 1, 2, none⟩ = false := (hb1.frozen (p := ⟨w.heap.size + 1, 2, none⟩) (by simp)).trans f2)
            go_roundg c
            case measure => omega
            case rel =>
              rw [← u64s_app0] at hown1
              have hblk2 := (HBLK.out.below hb1 (by omega)).set 2 (.slice (some ⟨g, 0, none⟩) (i + 1) cap1)
              refine ⟨i + 1, some ⟨g, 0, none⟩, i + 1, cap1, acc ++ [0], by go_num, by omega, ((HRES.out.below hb1 (by omega)).other (by simp) _), hblk2, ownsRow_setCell_below hown1 (by simp) _, by rw [List.length_append, HACC.out]; rfl, fun x hx => ?_, (HBEL.out.trans (hb1.mono (by omega))).setCell (by simp) _, by simp [World.setCell]; omega⟩
              rcases List.mem_append.1 hx with h | h
              · exact HLT.out x h
              · rw [List.mem_singleton.1 h]; exact HXL.out
    · obtain rfl : i = N := by omega
      have r0 : wr.cell? ⟨w.heap.size, 0, none⟩ = some (.int .u64 0) := HRES.out.cell 0 rfl
      have r1 : wr.cell? ⟨w.heap.size, 1, none⟩ = some (.int .u64 0) := HRES.out.cell 1 rfl
      have r2 : wr.cell? ⟨w.heap.size, 2, none⟩ = some (.slice none 0 0) := HRES.out.cell 2 rfl
      have y0 := HRES.out.free 0
      have y1 := HRES.out.free 1
      have y2 := HRES.out.free 2
      have hdd : decide ((i : Int) < (i : Int)) = false := by simp
      go_wp2_with fail
      refine bodyPost_ret (v := .agg #[.int .u64 (m : Int), .int .u64 (k : Int), .slice p n2 cap2]) (by simp [results, Try.results21, go_sem, *]) rfl ?_
      have ho : OwnFil (w.heap.size + 2) wr (.agg #[.int .u64 (m : Int), .int .u64 (k : Int), .slice p n2 cap2]) m k acc := ⟨p, n2, cap2, rfl, by rw [HACC.out]; exact HO.out, HLT.out⟩
      exact ⟨_, acc, rfl, (((ho.set (by simp) _).set (by simp) _).set (by simp) _).weaken (by omega), HACC.out, ((HBEL.out.setCell (by simp) _).setCell (by simp) _).setCell (by simp) _⟩
end Go.Proofs.Ytbcbkieebelleaa
