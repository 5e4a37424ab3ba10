/- sum128 at any tail (printed by gen_sumjoin.py). -/
import Derived.Test.YtbcbkieebelleaaBlSumA
import Derived.Test.YtbcbkieebelleaaBlSumB
import Derived.Test.YtbcbkieebelleaaBlSumC
import Derived.Test.YtbcbkieebelleaaBlSumD
import Derived.Test.YtbcbkieebelleaaBlMix
namespace Go.Proofs.Ytbcbkieebelleaa
set_option linter.unusedVariables false
open Go.RowKit

theorem sum_ex (tl : List Int) (pad : Bool) (y1 y2 len : Int) (h16 : tl.length < 16) (h15 : pad = true → tl.length < 15) : ∃ r1 r2 : Int, ∀ (B d n cap : Nat) (a : Option Addr) (w : World), Dg w d y1 y2 → By B w a tl → n = tl.length →
    Calls Try.prog 87 #[.pointer (some ⟨d, 0, none⟩), .bool pad, .int .u64 len, .slice a n cap] w fun e w' => e = .returned (.tuple #[.int .u64 r1, .int .u64 r2]) ∧ ∃ k, w' = w.drewN k := by
  match tl, h16, h15 with
  | [], _, _ =>
    cases pad with
    | false =>
      obtain ⟨r1, r2, h⟩ := s0n y1 y2 len
      refine ⟨r1, r2, fun B d m cap a w hd hby hm => ?_⟩
      have hm2 : m = 0 := by simpa using hm
      subst hm2
      exact h d cap a w hd
    | true =>
      obtain ⟨r1, r2, h⟩ := s0p y1 y2 len
      refine ⟨r1, r2, fun B d m cap a w hd hby hm => ?_⟩
      have hm2 : m = 0 := by simpa using hm
      subst hm2
      exact h d cap a w hd
  | [x0], _, _ =>
    cases pad with
    | false =>
      obtain ⟨r1, r2, h⟩ := s1n y1 y2 len x0
      refine ⟨r1, r2, fun B d m cap a w hd hby hm => ?_⟩
      have hm2 : m = 1 := by simpa using hm
      subst hm2
      obtain ⟨b, o, rfl, _, _, hc⟩ := hby (by simp)
      exact h d cap b o w hd (hc 0 _ rfl)
    | true =>
      obtain ⟨r1, r2, h⟩ := s1p y1 y2 len x0
      refine ⟨r1, r2, fun B d m cap a w hd hby hm => ?_⟩
      have hm2 : m = 1 := by simpa using hm
      subst hm2
      obtain ⟨b, o, rfl, _, _, hc⟩ := hby (by simp)
      exact h d cap b o w hd (hc 0 _ rfl)
  | [x0, x1], _, _ =>
    cases pad with
    | false =>
      obtain ⟨r1, r2, h⟩ := s2n y1 y2 len x0 x1
      refine ⟨r1, r2, fun B d m cap a w hd hby hm => ?_⟩
      have hm2 : m = 2 := by simpa using hm
      subst hm2
      obtain ⟨b, o, rfl, _, _, hc⟩ := hby (by simp)
      exact h d cap b o w hd (hc 0 _ rfl) (hc 1 _ rfl)
    | true =>
      obtain ⟨r1, r2, h⟩ := s2p y1 y2 len x0 x1
      refine ⟨r1, r2, fun B d m cap a w hd hby hm => ?_⟩
      have hm2 : m = 2 := by simpa using hm
      subst hm2
      obtain ⟨b, o, rfl, _, _, hc⟩ := hby (by simp)
      exact h d cap b o w hd (hc 0 _ rfl) (hc 1 _ rfl)
  | [x0, x1, x2], _, _ =>
    cases pad with
    | false =>
      obtain ⟨r1, r2, h⟩ := s3n y1 y2 len x0 x1 x2
      refine ⟨r1, r2, fun B d m cap a w hd hby hm => ?_⟩
      have hm2 : m = 3 := by simpa using hm
      subst hm2
      obtain ⟨b, o, rfl, _, _, hc⟩ := hby (by simp)
      exact h d cap b o w hd (hc 0 _ rfl) (hc 1 _ rfl) (hc 2 _ rfl)
    | true =>
      obtain ⟨r1, r2, h⟩ := s3p y1 y2 len x0 x1 x2
      refine ⟨r1, r2, fun B d m cap a w hd hby hm => ?_⟩
      have hm2 : m = 3 := by simpa using hm
      subst hm2
      obtain ⟨b, o, rfl, _, _, hc⟩ := hby (by simp)
      exact h d cap b o w hd (hc 0 _ rfl) (hc 1 _ rfl) (hc 2 _ rfl)
  | [x0, x1, x2, x3], _, _ =>
    cases pad with
    | false =>
      obtain ⟨r1, r2, h⟩ := s4n y1 y2 len x0 x1 x2 x3
      refine ⟨r1, r2, fun B d m cap a w hd hby hm => ?_⟩
      have hm2 : m = 4 := by simpa using hm
      subst hm2
      obtain ⟨b, o, rfl, _, _, hc⟩ := hby (by simp)
      exact h d cap b o w hd (hc 0 _ rfl) (hc 1 _ rfl) (hc 2 _ rfl) (hc 3 _ rfl)
    | true =>
      obtain ⟨r1, r2, h⟩ := s4p y1 y2 len x0 x1 x2 x3
      refine ⟨r1, r2, fun B d m cap a w hd hby hm => ?_⟩
      have hm2 : m = 4 := by simpa using hm
      subst hm2
      obtain ⟨b, o, rfl, _, _, hc⟩ := hby (by simp)
      exact h d cap b o w hd (hc 0 _ rfl) (hc 1 _ rfl) (hc 2 _ rfl) (hc 3 _ rfl)
  | [x0, x1, x2, x3, x4], _, _ =>
    cases pad with
    | false =>
      obtain ⟨r1, r2, h⟩ := s5n y1 y2 len x0 x1 x2 x3 x4
      refine ⟨r1, r2, fun B d m cap a w hd hby hm => ?_⟩
      have hm2 : m = 5 := by simpa using hm
      subst hm2
      obtain ⟨b, o, rfl, _, _, hc⟩ := hby (by simp)
      exact h d cap b o w hd (hc 0 _ rfl) (hc 1 _ rfl) (hc 2 _ rfl) (hc 3 _ rfl) (hc 4 _ rfl)
    | true =>
      obtain ⟨r1, r2, h⟩ := s5p y1 y2 len x0 x1 x2 x3 x4
      refine ⟨r1, r2, fun B d m cap a w hd hby hm => ?_⟩
      have hm2 : m = 5 := by simpa using hm
      subst hm2
      obtain ⟨b, o, rfl, _, _, hc⟩ := hby (by simp)
      exact h d cap b o w hd (hc 0 _ rfl) (hc 1 _ rfl) (hc 2 _ rfl) (hc 3 _ rfl) (hc 4 _ rfl)
  | [x0, x1, x2, x3, x4, x5], _, _ =>
    cases pad with
    | false =>
      obtain ⟨r1, r2, h⟩ := s6n y1 y2 len x0 x1 x2 x3 x4 x5
      refine ⟨r1, r2, fun B d m cap a w hd hby hm => ?_⟩
      have hm2 : m = 6 := by simpa using hm
      subst hm2
      obtain ⟨b, o, rfl, _, _, hc⟩ := hby (by simp)
      exact h d cap b o w hd (hc 0 _ rfl) (hc 1 _ rfl) (hc 2 _ rfl) (hc 3 _ rfl) (hc 4 _ rfl) (hc 5 _ rfl)
    | true =>
      obtain ⟨r1, r2, h⟩ := s6p y1 y2 len x0 x1 x2 x3 x4 x5
      refine ⟨r1, r2, fun B d m cap a w hd hby hm => ?_⟩
      have hm2 : m = 6 := by simpa using hm
      subst hm2
      obtain ⟨b, o, rfl, _, _, hc⟩ := hby (by simp)
      exact h d cap b o w hd (hc 0 _ rfl) (hc 1 _ rfl) (hc 2 _ rfl) (hc 3 _ rfl) (hc 4 _ rfl) (hc 5 _ rfl)
  | [x0, x1, x2, x3, x4, x5, x6], _, _ =>
    cases pad with
    | false =>
      obtain ⟨r1, r2, h⟩ := s7n y1 y2 len x0 x1 x2 x3 x4 x5 x6
      refine ⟨r1, r2, fun B d m cap a w hd hby hm => ?_⟩
      have hm2 : m = 7 := by simpa using hm
      subst hm2
      obtain ⟨b, o, rfl, _, _, hc⟩ := hby (by simp)
      exact h d cap b o w hd (hc 0 _ rfl) (hc 1 _ rfl) (hc 2 _ rfl) (hc 3 _ rfl) (hc 4 _ rfl) (hc 5 _ rfl) (hc 6 _ rfl)
    | true =>
      obtain ⟨r1, r2, h⟩ := s7p y1 y2 len x0 x1 x2 x3 x4 x5 x6
      refine ⟨r1, r2, fun B d m cap a w hd hby hm => ?_⟩
      have hm2 : m = 7 := by simpa using hm
      subst hm2
      obtain ⟨b, o, rfl, _, _, hc⟩ := hby (by simp)
      exact h d cap b o w hd (hc 0 _ rfl) (hc 1 _ rfl) (hc 2 _ rfl) (hc 3 _ rfl) (hc 4 _ rfl) (hc 5 _ rfl) (hc 6 _ rfl)
  | [x0, x1, x2, x3, x4, x5, x6, x7], _, _ =>
    cases pad with
    | false =>
      obtain ⟨r1, r2, h⟩ := s8n y1 y2 len x0 x1 x2 x3 x4 x5 x6 x7
      refine ⟨r1, r2, fun B d m cap a w hd hby hm => ?_⟩
      have hm2 : m = 8 := by simpa using hm
      subst hm2
      obtain ⟨b, o, rfl, _, _, hc⟩ := hby (by simp)
      exact h d cap b o w hd (hc 0 _ rfl) (hc 1 _ rfl) (hc 2 _ rfl) (hc 3 _ rfl) (hc 4 _ rfl) (hc 5 _ rfl) (hc 6 _ rfl) (hc 7 _ rfl)
    | true =>
      obtain ⟨r1, r2, h⟩ := s8p y1 y2 len x0 x1 x2 x3 x4 x5 x6 x7
      refine ⟨r1, r2, fun B d m cap a w hd hby hm => ?_⟩
      have hm2 : m = 8 := by simpa using hm
      subst hm2
      obtain ⟨b, o, rfl, _, _, hc⟩ := hby (by simp)
      exact h d cap b o w hd (hc 0 _ rfl) (hc 1 _ rfl) (hc 2 _ rfl) (hc 3 _ rfl) (hc 4 _ rfl) (hc 5 _ rfl) (hc 6 _ rfl) (hc 7 _ rfl)
  | [x0, x1, x2, x3, x4, x5, x6, x7, x8], _, _ =>
    cases pad with
    | false =>
      obtain ⟨r1, r2, h⟩ := s9n y1 y2 len x0 x1 x2 x3 x4 x5 x6 x7 x8
      refine ⟨r1, r2, fun B d m cap a w hd hby hm => ?_⟩
      have hm2 : m = 9 := by simpa using hm
      subst hm2
      obtain ⟨b, o, rfl, _, _, hc⟩ := hby (by simp)
      exact h d cap b o w hd (hc 0 _ rfl) (hc 1 _ rfl) (hc 2 _ rfl) (hc 3 _ rfl) (hc 4 _ rfl) (hc 5 _ rfl) (hc 6 _ rfl) (hc 7 _ rfl) (hc 8 _ rfl)
    | true =>
      obtain ⟨r1, r2, h⟩ := s9p y1 y2 len x0 x1 x2 x3 x4 x5 x6 x7 x8
      refine ⟨r1, r2, fun B d m cap a w hd hby hm => ?_⟩
      have hm2 : m = 9 := by simpa using hm
      subst hm2
      obtain ⟨b, o, rfl, _, _, hc⟩ := hby (by simp)
      exact h d cap b o w hd (hc 0 _ rfl) (hc 1 _ rfl) (hc 2 _ rfl) (hc 3 _ rfl) (hc 4 _ rfl) (hc 5 _ rfl) (hc 6 _ rfl) (hc 7 _ rfl) (hc 8 _ rfl)
  | [x0, x1, x2, x3, x4, x5, x6, x7, x8, x9], _, _ =>
    cases pad with
    | false =>
      obtain ⟨r1, r2, h⟩ := s10n y1 y2 len x0 x1 x2 x3 x4 x5 x6 x7 x8 x9
      refine ⟨r1, r2, fun B d m cap a w hd hby hm => ?_⟩
      have hm2 : m = 10 := by simpa using hm
      subst hm2
      obtain ⟨b, o, rfl, _, _, hc⟩ := hby (by simp)
      exact h d cap b o w hd (hc 0 _ rfl) (hc 1 _ rfl) (hc 2 _ rfl) (hc 3 _ rfl) (hc 4 _ rfl) (hc 5 _ rfl) (hc 6 _ rfl) (hc 7 _ rfl) (hc 8 _ rfl) (hc 9 _ rfl)
    | true =>
      obtain ⟨r1, r2, h⟩ := s10p y1 y2 len x0 x1 x2 x3 x4 x5 x6 x7 x8 x9
      refine ⟨r1, r2, fun B d m cap a w hd hby hm => ?_⟩
      have hm2 : m = 10 := by simpa using hm
      subst hm2
      obtain ⟨b, o, rfl, _, _, hc⟩ := hby (by simp)
      exact h d cap b o w hd (hc 0 _ rfl) (hc 1 _ rfl) (hc 2 _ rfl) (hc 3 _ rfl) (hc 4 _ rfl) (hc 5 _ rfl) (hc 6 _ rfl) (hc 7 _ rfl) (hc 8 _ rfl) (hc 9 _ rfl)
  | [x0, x1, x2, x3, x4, x5, x6, x7, x8, x9, x10], _, _ =>
    cases pad with
    | false =>
      obtain ⟨r1, r2, h⟩ := s11n y1 y2 len x0 x1 x2 x3 x4 x5 x6 x7 x8 x9 x10
      refine ⟨r1, r2, fun B d m cap a w hd hby hm => ?_⟩
      have hm2 : m = 11 := by simpa using hm
      subst hm2
      obtain ⟨b, o, rfl, _, _, hc⟩ := hby (by simp)
      exact h d cap b o w hd (hc 0 _ rfl) (hc 1 _ rfl) (hc 2 _ rfl) (hc 3 _ rfl) (hc 4 _ rfl) (hc 5 _ rfl) (hc 6 _ rfl) (hc 7 _ rfl) (hc 8 _ rfl) (hc 9 _ rfl) (hc 10 _ rfl)
    | true =>
      obtain ⟨r1, r2, h⟩ := s11p y1 y2 len x0 x1 x2 x3 x4 x5 x6 x7 x8 x9 x10
      refine ⟨r1, r2, fun B d m cap a w hd hby hm => ?_⟩
      have hm2 : m = 11 := by simpa using hm
      subst hm2
      obtain ⟨b, o, rfl, _, _, hc⟩ := hby (by simp)
      exact h d cap b o w hd (hc 0 _ rfl) (hc 1 _ rfl) (hc 2 _ rfl) (hc 3 _ rfl) (hc 4 _ rfl) (hc 5 _ rfl) (hc 6 _ rfl) (hc 7 _ rfl) (hc 8 _ rfl) (hc 9 _ rfl) (hc 10 _ rfl)
  | [x0, x1, x2, x3, x4, x5, x6, x7, x8, x9, x10, x11], _, _ =>
    cases pad with
    | false =>
      obtain ⟨r1, r2, h⟩ := s12n y1 y2 len x0 x1 x2 x3 x4 x5 x6 x7 x8 x9 x10 x11
      refine ⟨r1, r2, fun B d m cap a w hd hby hm => ?_⟩
      have hm2 : m = 12 := by simpa using hm
      subst hm2
      obtain ⟨b, o, rfl, _, _, hc⟩ := hby (by simp)
      exact h d cap b o w hd (hc 0 _ rfl) (hc 1 _ rfl) (hc 2 _ rfl) (hc 3 _ rfl) (hc 4 _ rfl) (hc 5 _ rfl) (hc 6 _ rfl) (hc 7 _ rfl) (hc 8 _ rfl) (hc 9 _ rfl) (hc 10 _ rfl) (hc 11 _ rfl)
    | true =>
      obtain ⟨r1, r2, h⟩ := s12p y1 y2 len x0 x1 x2 x3 x4 x5 x6 x7 x8 x9 x10 x11
      refine ⟨r1, r2, fun B d m cap a w hd hby hm => ?_⟩
      have hm2 : m = 12 := by simpa using hm
      subst hm2
      obtain ⟨b, o, rfl, _, _, hc⟩ := hby (by simp)
      exact h d cap b o w hd (hc 0 _ rfl) (hc 1 _ rfl) (hc 2 _ rfl) (hc 3 _ rfl) (hc 4 _ rfl) (hc 5 _ rfl) (hc 6 _ rfl) (hc 7 _ rfl) (hc 8 _ rfl) (hc 9 _ rfl) (hc 10 _ rfl) (hc 11 _ rfl)
  | [x0, x1, x2, x3, x4, x5, x6, x7, x8, x9, x10, x11, x12], _, _ =>
    cases pad with
    | false =>
      obtain ⟨r1, r2, h⟩ := s13n y1 y2 len x0 x1 x2 x3 x4 x5 x6 x7 x8 x9 x10 x11 x12
      refine ⟨r1, r2, fun B d m cap a w hd hby hm => ?_⟩
      have hm2 : m = 13 := by simpa using hm
      subst hm2
      obtain ⟨b, o, rfl, _, _, hc⟩ := hby (by simp)
      exact h d cap b o w hd (hc 0 _ rfl) (hc 1 _ rfl) (hc 2 _ rfl) (hc 3 _ rfl) (hc 4 _ rfl) (hc 5 _ rfl) (hc 6 _ rfl) (hc 7 _ rfl) (hc 8 _ rfl) (hc 9 _ rfl) (hc 10 _ rfl) (hc 11 _ rfl) (hc 12 _ rfl)
    | true =>
      obtain ⟨r1, r2, h⟩ := s13p y1 y2 len x0 x1 x2 x3 x4 x5 x6 x7 x8 x9 x10 x11 x12
      refine ⟨r1, r2, fun B d m cap a w hd hby hm => ?_⟩
      have hm2 : m = 13 := by simpa using hm
      subst hm2
      obtain ⟨b, o, rfl, _, _, hc⟩ := hby (by simp)
      exact h d cap b o w hd (hc 0 _ rfl) (hc 1 _ rfl) (hc 2 _ rfl) (hc 3 _ rfl) (hc 4 _ rfl) (hc 5 _ rfl) (hc 6 _ rfl) (hc 7 _ rfl) (hc 8 _ rfl) (hc 9 _ rfl) (hc 10 _ rfl) (hc 11 _ rfl) (hc 12 _ rfl)
  | [x0, x1, x2, x3, x4, x5, x6, x7, x8, x9, x10, x11, x12, x13], _, _ =>
    cases pad with
    | false =>
      obtain ⟨r1, r2, h⟩ := s14n y1 y2 len x0 x1 x2 x3 x4 x5 x6 x7 x8 x9 x10 x11 x12 x13
      refine ⟨r1, r2, fun B d m cap a w hd hby hm => ?_⟩
      have hm2 : m = 14 := by simpa using hm
      subst hm2
      obtain ⟨b, o, rfl, _, _, hc⟩ := hby (by simp)
      exact h d cap b o w hd (hc 0 _ rfl) (hc 1 _ rfl) (hc 2 _ rfl) (hc 3 _ rfl) (hc 4 _ rfl) (hc 5 _ rfl) (hc 6 _ rfl) (hc 7 _ rfl) (hc 8 _ rfl) (hc 9 _ rfl) (hc 10 _ rfl) (hc 11 _ rfl) (hc 12 _ rfl) (hc 13 _ rfl)
    | true =>
      obtain ⟨r1, r2, h⟩ := s14p y1 y2 len x0 x1 x2 x3 x4 x5 x6 x7 x8 x9 x10 x11 x12 x13
      refine ⟨r1, r2, fun B d m cap a w hd hby hm => ?_⟩
      have hm2 : m = 14 := by simpa using hm
      subst hm2
      obtain ⟨b, o, rfl, _, _, hc⟩ := hby (by simp)
      exact h d cap b o w hd (hc 0 _ rfl) (hc 1 _ rfl) (hc 2 _ rfl) (hc 3 _ rfl) (hc 4 _ rfl) (hc 5 _ rfl) (hc 6 _ rfl) (hc 7 _ rfl) (hc 8 _ rfl) (hc 9 _ rfl) (hc 10 _ rfl) (hc 11 _ rfl) (hc 12 _ rfl) (hc 13 _ rfl)
  | [x0, x1, x2, x3, x4, x5, x6, x7, x8, x9, x10, x11, x12, x13, x14], _, h15 =>
    cases pad with
    | false =>
      obtain ⟨r1, r2, h⟩ := s15n y1 y2 len x0 x1 x2 x3 x4 x5 x6 x7 x8 x9 x10 x11 x12 x13 x14
      refine ⟨r1, r2, fun B d m cap a w hd hby hm => ?_⟩
      have hm2 : m = 15 := by simpa using hm
      subst hm2
      obtain ⟨b, o, rfl, _, _, hc⟩ := hby (by simp)
      exact h d cap b o w hd (hc 0 _ rfl) (hc 1 _ rfl) (hc 2 _ rfl) (hc 3 _ rfl) (hc 4 _ rfl) (hc 5 _ rfl) (hc 6 _ rfl) (hc 7 _ rfl) (hc 8 _ rfl) (hc 9 _ rfl) (hc 10 _ rfl) (hc 11 _ rfl) (hc 12 _ rfl) (hc 13 _ rfl) (hc 14 _ rfl)
    | true =>
      exact absurd (h15 rfl) (by simp)
  | x0 :: x1 :: x2 :: x3 :: x4 :: x5 :: x6 :: x7 :: x8 :: x9 :: x10 :: x11 :: x12 :: x13 :: x14 :: x15 :: rest, h16, _ => exact absurd h16 (by simp only [List.length_cons]; omega)
end Go.Proofs.Ytbcbkieebelleaa
