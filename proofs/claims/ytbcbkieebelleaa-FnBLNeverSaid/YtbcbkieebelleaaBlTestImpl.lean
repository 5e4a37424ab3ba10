/- Walks of impl.BLTest. -/
import Derived.Test.YtbcbkieebelleaaBlTest
import Derived.Outline
namespace Go.Proofs.Ytbcbkieebelleaa
set_option linter.unusedVariables false
open Go.RowKit

theorem Bt.below {w w' : World} {a : Option Addr} {n cap : Nat} {bs : List Int} (h : Bt w a n cap bs) (hb : Below w.heap.size w w') : Bt w' a n cap bs :=
  ⟨(h.1.below hb (Nat.le_refl _) hb.size).weaken hb.size (Nat.le_refl _), h.2⟩

set_option maxRecDepth 100000 in
set_option maxHeartbeats 2000000 in
theorem bltest_any (bs : List Int) (r1 r2 r3 r4 : Int) (L : Nat → Nat) (hL : LocIs r1 r2 r3 r4 L) (hbase : BaseIs bs r1 r2 r3 r4) (m k : Nat) (ws : List Nat) (v : Value) (a : Option Addr) (dn dc : Nat) (w : World)
    (hv : Fil w v m k ws) (hd : Bt w a dn dc bs) (hm : 0 < m) (hmw : m ≤ 64 * ws.length) (hw : ws.length ≤ 1000) (hk : k ≤ 100000) :
    Calls Try.prog 28 #[v, .slice a dn dc] w fun e w' => e = .returned (.bool (tests L m k ws)) ∧ Below w.heap.size w w' := by
  have hv0 := hv
  obtain ⟨fa, fn, fc, rfl, _⟩ := hv0
  have hb0 : Below w.heap.size w (w.alloc (.cells #[.int .u64 (m : Int), .int .u64 (k : Int), .slice fa fn fc] 39)) := (Below.refl _ _).alloc (Nat.le_refl _) _
  have HV := Lib.hid (hv.below rfl hb0)
  have HD := Lib.hid (hd.below hb0)
  have HB0 := Lib.hid hb0
  have HL := Lib.hid hL
  have HBASE := Lib.hid hbase
  clear hv hd hb0 hL hbase
  go_enter Try.func28, Try.ntmps28
  go_wp2_with fail
  refine (filter_any _ m k ws _ HV.out (by omega) hw).mono ?_
  rintro e w1 ⟨f, p, cap, rfl, hbf, hb1⟩
  have HBF := Lib.hid hbf
  have HD1 := Lib.hid (HD.out.below hb1)
  have HB1 := Lib.hid (HB0.out.trans (hb1.mono HB0.out.size))
  clear hbf hb1
  go_wp2_with fail
  refine (fltest_any bs r1 r2 r3 r4 L HL.out HBASE.out _ f p m k _ ws cap a dn dc w1 HBF.out HD1.out hm hmw (Nat.le_refl _) (by omega) hk).mono ?_
  rintro e w2 ⟨rfl, hb2⟩
  go_wp2_with fail
  go_ret
  exact ⟨rfl, HB1.out.trans (hb2.mono HB1.out.size)⟩
end Go.Proofs.Ytbcbkieebelleaa
