/- Walks of TestOrAddString, impl.BLTestOrAdd and impl.BLTestOrAddString. -/
import Derived.Test.YtbcbkieebelleaaBlTora
import Derived.Test.YtbcbkieebelleaaBlStr
import Derived.Outline
namespace Go.Proofs.Ytbcbkieebelleaa
set_option linter.unusedVariables false
open Go.RowKit

/-- what TestOrAdd does -/
def ToraIs (L : Nat → Nat) (B f p m k Lb : Nat) (ws : List Nat) (cap : Nat) (w : World) (e : Ending) (w' : World) : Prop :=
  e = .returned (.bool (tests L m k ws)) ∧ ∃ ws', Bf B w' f p m k Lb ws' cap ∧ ws'.length = ws.length ∧ (∀ j, Bsm.bit ws' j = (Bsm.bit ws j || hits L m k j)) ∧ Below B w w' ∧ w.heap.size ≤ w'.heap.size

set_option maxRecDepth 100000 in
set_option maxHeartbeats 2000000 in
theorem torastr_any (bs : List Int) (r1 r2 r3 r4 : Int) (L : Nat → Nat) (hL : LocIs r1 r2 r3 r4 L) (hbase : BaseIs bs r1 r2 r3 r4) (B f p m k Lb : Nat) (ws : List Nat) (cap : Nat) (w : World)
    (hb : Bf B w f p m k Lb ws cap) (hBw : B ≤ w.heap.size) (hbs : ∀ x ∈ bs, 0 ≤ x ∧ x ≤ 255) (h9 : bs.length ≤ 100000) (hm : 0 < m) (hmL : m ≤ Lb) (hLw : Lb ≤ 64 * ws.length) (hL5 : Lb ≤ 100000) (hk : k ≤ 100000) :
    Calls Try.prog 51 #[.pointer (some ⟨f, 0, none⟩), .string (strOfNums bs)] w (ToraIs L B f p m k Lb ws cap w) := by
  obtain ⟨c1, W, hconv, hbW, hbt⟩ := bytes_of w bs hbs h9 9 49 5 (by kernel_rfl) (by kernel_rfl) (by kernel_rfl)
  have HC := Lib.hid (tora_any bs r1 r2 r3 r4 L hL hbase B f p m k Lb ws cap (some ⟨w.heap.size, 0, none⟩) bs.length c1 W (hb.below hbW) hbt hm hmL hLw hL5 hk)
  have HBW := Lib.hid hbW
  have HBB := Lib.hid hBw
  obtain ⟨S, hS⟩ : ∃ S, strOfNums bs = S := ⟨_, rfl⟩
  rw [hS] at hconv ⊢
  clear hL hbase hb hbs h9 hm hmL hLw hL5 hk hbW hbt hS hBw
  go_enter Try.func51, Try.ntmps51
  go_wp2_with fail
  refine HC.out.mono ?_
  rintro e w2 ⟨rfl, ws', h1, h2, h3, h4, h5⟩
  go_wp2_with fail
  go_ret
  exact ⟨rfl, ws', h1, h2, h3, (HBW.out.mono HBB.out).trans h4, Nat.le_trans HBW.out.size h5⟩

set_option maxRecDepth 100000 in
set_option maxHeartbeats 4000000 in
theorem bltora_any (bs : List Int) (r1 r2 r3 r4 : Int) (L : Nat → Nat) (hL : LocIs r1 r2 r3 r4 L) (hbase : BaseIs bs r1 r2 r3 r4) (m k : Nat) (ws : List Nat) (v : Value) (a : Option Addr) (dn dc : Nat) (w : World)
    (hv : Fil w v m k ws) (hd : Bt w a dn dc bs) (hm : 0 < m) (hmw : m ≤ 64 * ws.length) (hw : ws.length ≤ 1000) (hk : k ≤ 100000) :
    Calls Try.prog 31 #[v, .slice a dn dc] w fun e w' => ∃ v' ws', e = .returned (.tuple #[v', .bool (tests L m k ws)]) ∧ OwnFil w.heap.size w' v' m k ws' ∧ ws'.length = ws.length ∧ (∀ j, Bsm.bit ws' j = (Bsm.bit ws j || hits L m k j)) ∧ Below w.heap.size w w' := by
  have hv0 := hv
  obtain ⟨fa, fn, fc, rfl, _⟩ := hv0
  obtain ⟨W, hW⟩ : ∃ W, W = (w.alloc (.cells #[.int .u64 (m : Int), .int .u64 (k : Int), .slice fa fn fc] 39)).alloc (.cells #[.int .u64 0, .int .u64 0, .slice none 0 0] 39) := ⟨_, rfl⟩
  have hb0 : Below w.heap.size w W := by rw [hW]; exact ((Below.refl _ _).alloc (Nat.le_refl _) _).alloc (by simp) _
  have hz0 : W.heap.size = w.heap.size + 2 := by rw [hW]; simp
  have kZ : Blk W (w.heap.size + 1) 39 #[.int .u64 0, .int .u64 0, .slice none 0 0] := by
    have h := Blk.new (w.alloc (.cells #[.int .u64 (m : Int), .int .u64 (k : Int), .slice fa fn fc] 39)) 39 #[.int .u64 0, .int .u64 0, .slice none 0 0]
    rw [← hW] at h
    simpa using h
  have HV := Lib.hid (hv.below rfl hb0)
  have HB0 := Lib.hid hb0
  have HZ0 := Lib.hid hz0
  have HKZ := Lib.hid kZ
  have HD := Lib.hid (hd.below hb0)
  have HL := Lib.hid hL
  have HBASE := Lib.hid hbase
  clear hd
  obtain ⟨T, hT⟩ : ∃ T, tests L m k ws = T := ⟨_, rfl⟩
  have HTT := Lib.hid hT
  rw [hT]
  clear hv hb0 hz0 kZ hL hbase hT
  subst hW
  go_enter Try.func31, Try.ntmps31
  go_wp2_with fail
  refine (filter_any _ m k ws _ HV.out (by omega) hw).mono ?_
  rintro e w1 ⟨f, p, cap, rfl, hbf, hb1⟩
  have HBF := Lib.hid hbf
  have HB1 := Lib.hid hb1
  clear hbf hb1
  go_wp2_with fail
  refine (tora_any bs r1 r2 r3 r4 L HL.out HBASE.out _ f p m k _ ws cap a dn dc w1 HBF.out (HD.out.below HB1.out) hm hmw (Nat.le_refl _) (by omega) hk).mono ?_
  rintro e w2 ⟨rfl, ws', hbf2, hl2, hbit, hb2, hs2⟩
  rw [HTT.out]
  have HBF2 := Lib.hid hbf2
  have HL2 := Lib.hid hl2
  have HBIT := Lib.hid hbit
  have kz2 := (HKZ.out.below HB1.out (by have := HZ0.out; omega)).below hb2 (by have := HZ0.out; omega)
  have HK2 := Lib.hid kz2
  have HB2 : Hid (Below w.heap.size w w2) := Lib.hid ((HB0.out.trans (HB1.out.mono HB0.out.size)).trans (hb2.mono (by have := HZ0.out; omega)))
  clear hbf2 hl2 hbit hb2 hs2 kz2
  go_wp2_with fail
  refine (told_any _ f p m k _ ws' cap w2 HBF2.out (by rw [HL2.out]; omega)).mono ?_
  rintro e w3 ⟨v3, rfl, hof, hb3⟩
  have HOF := Lib.hid hof
  obtain ⟨a4, n4, c4, rfl, _⟩ := hof
  have kz3 := HK2.out.below hb3 HK2.out.lt
  have q0 : w3.cell? ⟨w.heap.size + 1, 0, none⟩ = some (.int .u64 0) := kz3.cell 0 rfl
  have q1 : w3.cell? ⟨w.heap.size + 1, 1, none⟩ = some (.int .u64 0) := kz3.cell 1 rfl
  have q2 : w3.cell? ⟨w.heap.size + 1, 2, none⟩ = some (.slice none 0 0) := kz3.cell 2 rfl
  have y0 := kz3.free 0
  have y1 := kz3.free 1
  have y2 := kz3.free 2
  have n0 := kz3.lt
  have HB3 : Hid (Below w.heap.size w w3) := Lib.hid (HB2.out.trans (hb3.mono HB2.out.size))
  have HLT : Hid (w.heap.size + 1 < w2.heap.size) := Lib.hid HK2.out.lt
  clear hb3 kz3
  go_wp2_with fail
  refine bodyPost_ret (v := .tuple #[.agg #[.int .u64 (m : Int), .int .u64 (k : Int), .slice a4 n4 c4], .bool T]) (by simp [results, Try.results31, go_sem, *]) rfl ?_
  have hlt := HLT.out
  exact ⟨_, ws', rfl, (((HOF.out.set (by simp only []; omega) _).set (by simp only []; omega) _).set (by simp only []; omega) _).weaken (by omega), HL2.out, HBIT.out, ((HB3.out.setCell (by simp only []; omega) _).setCell (by simp only []; omega) _).setCell (by simp only []; omega) _⟩

set_option maxRecDepth 100000 in
set_option maxHeartbeats 4000000 in
theorem bltorastr_any (bs : List Int) (r1 r2 r3 r4 : Int) (L : Nat → Nat) (hL : LocIs r1 r2 r3 r4 L) (hbase : BaseIs bs r1 r2 r3 r4) (m k : Nat) (ws : List Nat) (v : Value)  (w : World)
    (hv : Fil w v m k ws) (hbs : ∀ x ∈ bs, 0 ≤ x ∧ x ≤ 255) (h9 : bs.length ≤ 100000) (hm : 0 < m) (hmw : m ≤ 64 * ws.length) (hw : ws.length ≤ 1000) (hk : k ≤ 100000) :
    Calls Try.prog 32 #[v, .string (strOfNums bs)] w fun e w' => ∃ v' ws', e = .returned (.tuple #[v', .bool (tests L m k ws)]) ∧ OwnFil w.heap.size w' v' m k ws' ∧ ws'.length = ws.length ∧ (∀ j, Bsm.bit ws' j = (Bsm.bit ws j || hits L m k j)) ∧ Below w.heap.size w w' := by
  have hv0 := hv
  obtain ⟨fa, fn, fc, rfl, _⟩ := hv0
  obtain ⟨W, hW⟩ : ∃ W, W = (w.alloc (.cells #[.int .u64 (m : Int), .int .u64 (k : Int), .slice fa fn fc] 39)).alloc (.cells #[.int .u64 0, .int .u64 0, .slice none 0 0] 39) := ⟨_, rfl⟩
  have hb0 : Below w.heap.size w W := by rw [hW]; exact ((Below.refl _ _).alloc (Nat.le_refl _) _).alloc (by simp) _
  have hz0 : W.heap.size = w.heap.size + 2 := by rw [hW]; simp
  have kZ : Blk W (w.heap.size + 1) 39 #[.int .u64 0, .int .u64 0, .slice none 0 0] := by
    have h := Blk.new (w.alloc (.cells #[.int .u64 (m : Int), .int .u64 (k : Int), .slice fa fn fc] 39)) 39 #[.int .u64 0, .int .u64 0, .slice none 0 0]
    rw [← hW] at h
    simpa using h
  have HV := Lib.hid (hv.below rfl hb0)
  have HB0 := Lib.hid hb0
  have HZ0 := Lib.hid hz0
  have HKZ := Lib.hid kZ
  have HC := fun (B f p cap : Nat) (w1 : World) (hbf : Bf B w1 f p m k (64 * ws.length) ws cap) (hBw : B ≤ w1.heap.size) => torastr_any bs r1 r2 r3 r4 L hL hbase B f p m k _ ws cap w1 hbf hBw hbs h9 hm hmw (Nat.le_refl _) (by omega) hk
  obtain ⟨S, hS⟩ : ∃ S, strOfNums bs = S := ⟨_, rfl⟩
  rw [hS] at HC ⊢
  have HCC := Lib.hid HC
  clear hS HC hbs h9
  obtain ⟨T, hT⟩ : ∃ T, tests L m k ws = T := ⟨_, rfl⟩
  have HTT := Lib.hid hT
  rw [hT]
  clear hv hb0 hz0 kZ hL hbase hT
  subst hW
  go_enter Try.func32, Try.ntmps32
  go_wp2_with fail
  refine (filter_any _ m k ws _ HV.out (by omega) hw).mono ?_
  rintro e w1 ⟨f, p, cap, rfl, hbf, hb1⟩
  have HBF := Lib.hid hbf
  have HB1 := Lib.hid hb1
  clear hbf hb1
  go_wp2_with fail
  refine (HCC.out _ f p cap w1 HBF.out HB1.out.size).mono ?_
  rintro e w2 ⟨rfl, ws', hbf2, hl2, hbit, hb2, hs2⟩
  rw [HTT.out]
  have HBF2 := Lib.hid hbf2
  have HL2 := Lib.hid hl2
  have HBIT := Lib.hid hbit
  have kz2 := (HKZ.out.below HB1.out (by have := HZ0.out; omega)).below hb2 (by have := HZ0.out; omega)
  have HK2 := Lib.hid kz2
  have HB2 : Hid (Below w.heap.size w w2) := Lib.hid ((HB0.out.trans (HB1.out.mono HB0.out.size)).trans (hb2.mono (by have := HZ0.out; omega)))
  clear hbf2 hl2 hbit hb2 hs2 kz2
  go_wp2_with fail
  refine (told_any _ f p m k _ ws' cap w2 HBF2.out (by rw [HL2.out]; omega)).mono ?_
  rintro e w3 ⟨v3, rfl, hof, hb3⟩
  have HOF := Lib.hid hof
  obtain ⟨a4, n4, c4, rfl, _⟩ := hof
  have kz3 := HK2.out.below hb3 HK2.out.lt
  have q0 : w3.cell? ⟨w.heap.size + 1, 0, none⟩ = some (.int .u64 0) := kz3.cell 0 rfl
  have q1 : w3.cell? ⟨w.heap.size + 1, 1, none⟩ = some (.int .u64 0) := kz3.cell 1 rfl
  have q2 : w3.cell? ⟨w.heap.size + 1, 2, none⟩ = some (.slice none 0 0) := kz3.cell 2 rfl
  have y0 := kz3.free 0
  have y1 := kz3.free 1
  have y2 := kz3.free 2
  have n0 := kz3.lt
  have HB3 : Hid (Below w.heap.size w w3) := Lib.hid (HB2.out.trans (hb3.mono HB2.out.size))
  have HLT : Hid (w.heap.size + 1 < w2.heap.size) := Lib.hid HK2.out.lt
  clear hb3 kz3
  go_wp2_with fail
  refine bodyPost_ret (v := .tuple #[.agg #[.int .u64 (m : Int), .int .u64 (k : Int), .slice a4 n4 c4], .bool T]) (by simp [results, Try.results32, go_sem, *]) rfl ?_
  have hlt := HLT.out
  exact ⟨_, ws', rfl, (((HOF.out.set (by simp only []; omega) _).set (by simp only []; omega) _).set (by simp only []; omega) _).weaken (by omega), HL2.out, HBIT.out, ((HB3.out.setCell (by simp only []; omega) _).setCell (by simp only []; omega) _).setCell (by simp only []; omega) _⟩

end Go.Proofs.Ytbcbkieebelleaa
