/- The walk of spec.BSIn. -/
import Derived.Test.YtbgmkojiklphmaaBsTwo
import Derived.Deep.RegionHeld3
namespace Go.Proofs.Ytbgmkojiklphmaa
set_option linter.unusedVariables false
open Go.RowKit

/-- a second quiet region behind draws -/
theorem quiet_add {P : Program} {f : FuncId} {args : Array Value} {w : World} {a n : Nat} {v : Value}
    (h : Calls P f args (w.drewN (a + n)) fun e w' => e = .returned v ∧ ∃ m, w' = (w.drewN (a + n)).drewN m) :
    Calls P f args (w.drewN (a + n)) fun e w'' => e = .returned v ∧ ∃ m, w'' = w.drewN (a + m) :=
  h.mono fun _ _ ⟨he, m, hm⟩ => ⟨he, n + m, by rw [hm, World.drewN_drewN, Nat.add_assoc]⟩
theorem quiet_add_same {P : Program} {f : FuncId} {args : Array Value} {w : World} {a n : Nat} {v : Value}
    (h : Calls P f args (w.drewN (a + n)) fun e w' => e = .returned v ∧ w' = w.drewN (a + n)) :
    Calls P f args (w.drewN (a + n)) fun e w'' => e = .returned v ∧ ∃ m, w'' = w.drewN (a + m) :=
  h.mono fun _ _ ⟨he, hm⟩ => ⟨he, n, hm⟩

theorem Sl.drewN {w : World} {v : Value} {vs : List Value} (h : Sl w v vs) (n : Nat) : Sl (w.drewN n) v vs := by
  obtain ⟨a, m, cap, rfl, h1, h2, h3, h4⟩ := h
  exact ⟨a, m, cap, rfl, h1, h2, h3, h4⟩

set_option maxRecDepth 100000 in
set_option maxHeartbeats 400000 in
theorem in_yes (v u : Value) (bs : List Bool) (w : World) (hv : IsBits w v bs) (hu : Sl w u (u64s (Bsm.pos bs))) (hn : bs.length ≤ 100000) :
    Calls Try.prog 29 #[v, u] w fun e w' => e = .returned (.bool true) ∧ Below w.heap.size w w' := by
  obtain ⟨s, rfl, hs⟩ := hv
  have hpl := Bsm.pos_len_le bs
  have hlast := fun k (h : k < (Bsm.pos bs).length) => Bsm.pos_getD_lt bs k h
  obtain ⟨ps, hps⟩ : ∃ ps, Bsm.pos bs = ps := ⟨_, rfl⟩
  obtain ⟨L, hL⟩ : ∃ L, bs.length = L := ⟨_, rfl⟩
  rw [hps] at hs hu hpl hlast
  rw [hL] at hlast hn hpl ⊢
  clear hps hL
  have hb : Below w.heap.size w (w.alloc (.cells #[.int .u64 (L : Int), s] 25)) := (Below.refl _ _).alloc (Nat.le_refl _) _
  have HS := Lib.hid (hs.below rfl hb)
  have HT := Lib.hid (hu.below rfl hb)
  obtain ⟨a, n, cap, rfl, _⟩ := hs
  obtain ⟨a2, n2, cap2, rfl, hl2, hc2, hm2, hr2⟩ := hu
  rw [u64s_len] at hl2
  have HB := Lib.hid hb
  have hn2 : n2 ≤ 100000 := by omega
  have bk := Blk.new w 25 #[.int .u64 (L : Int), .slice a n cap]
  have c0 : (w.alloc (.cells #[.int .u64 (L : Int), .slice a n cap] 25)).cell? ⟨w.heap.size, 0, none⟩ = some (.int .u64 (L : Int)) := bk.cell 0 rfl
  have c1 : (w.alloc (.cells #[.int .u64 (L : Int), .slice a n cap] 25)).cell? ⟨w.heap.size, 1, none⟩ = some (.slice a n cap) := bk.cell 1 rfl
  clear bk
  by_cases h0 : n2 = 0
  · subst h0
    clear hr2 hl2 hc2 hm2 hb hpl hlast
    go_enter Try.func29, Try.ntmps29
    go_wp2_with fail
    go_quiet ((go_at_call 25; exact Calls.quiet_of (list_any _ _ _ _ _ (HS.out.drewN _) (HT.out.drewN _) true (by simp))))
    go_wp2_with fail
    go_ret
    exact ⟨rfl, below_drewN HB.out _⟩
  · obtain ⟨b, off, rfl, hcell⟩ := hr2 (by omega)
    obtain ⟨k, rfl⟩ : ∃ k, n2 = k + 1 := ⟨n2 - 1, by omega⟩
    have h1 := hcell k _ (u64s_at ps k (by omega))
    have hlast := hlast k (by omega)
    obtain ⟨X, hX⟩ : ∃ X, ps.getD k 0 = X := ⟨_, rfl⟩
    rw [hX] at h1 hlast
    have h2 : (w.alloc (.cells #[.int .u64 (L : Int), .slice a n cap] 25)).cell? ⟨b, off + k, none⟩ = some (.int .u64 (X : Int)) := (HB.out.cell (World.block_lt_of_cell? w _ h1)).trans h1
    obtain ⟨m, hm⟩ : ∃ m, k + 1 = m := ⟨_, rfl⟩
    rw [hm] at HT hn2 ⊢
    have hkm : k < m := by omega
    have hwn : IntKind.i64.wrap ((m : Int) - 1) = (k : Int) := by rw [IntKind.wrap_i64]; omega
    have hm0 : decide ((m : Int) = 0) = false := by simp; omega
    have hm1 : ((m : Int) == 0) = false := by simp; omega
    clear hr2 hl2 hc2 hm2 hb hpl hcell h0 hX h1 hm
    go_enter Try.func29, Try.ntmps29
    go_wp2_with fail
    go_quiet ((go_at_call 25; exact Calls.quiet_of (list_any _ _ _ _ _ (HS.out.drewN _) (HT.out.drewN _) true (by simp))))
    go_wp2_with fail
    go_ret
    exact ⟨rfl, below_drewN HB.out _⟩
end Go.Proofs.Ytbgmkojiklphmaa
