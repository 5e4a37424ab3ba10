/- Bytes that are looked at: what laws.blData gives; and what the four values of bytes rest on. -/
import Derived.Test.YtbcbkieebelleaaBlLocs
import Derived.Outline
namespace Go.Proofs.Ytbcbkieebelleaa
set_option linter.unusedVariables false
open Go.RowKit

def u8s (bs : List Int) : List Value := bs.map (Value.int .u8)
theorem u8_cells (l : List Int) : ∀ u ∈ u8s l, u.oneCell' = true := by
  intro u hu
  obtain ⟨x, _, rfl⟩ := List.mem_map.1 hu
  rfl
theorem info_u8 : (Try.prog.info? 5).map (fun i => (i.zero, i.size, i.bytes)) = some (some (.int .u8 0), 1, 1) := by kernel_rfl

def AnyU8s (w : World) (v : Value) : Prop := ∃ xs : List Int, Sl w v (u8s xs)
set_option maxRecDepth 100000 in
theorem open_u8s {H : Type} {enc : TypeId × Value → H} {W : World} {v : Value} {d : DataW H} {p : List MemPlace} {r : Reach} {b0 : Nat}
    (hv : Value.okWide Try.prog W r b0 49 v) (h : DataW.Trod enc Try.prog W 0 (fun _ => true) true 49 v d p) : AnyU8s W v := by
  obtain ⟨xs, hsl, hwf⟩ := open_isints Try.underlying49 Try.underlying5 (by kernel_rfl) hv h
  exact ⟨xs, hsl⟩

/-- what locs_any asks of a slice of bytes -/
def Bt (w : World) (a : Option Addr) (n cap : Nat) (bs : List Int) : Prop :=
  By w.heap.size w a bs ∧ n = bs.length ∧ n ≤ cap ∧ cap ≤ 9223372036854775807 ∧ (0 < n → ∃ b o, a = some ⟨b, o, none⟩)
theorem Bt.of_sl {w : World} {a : Option Addr} {n cap : Nat} {bs : List Int} (h : Sl w (.slice a n cap) (u8s bs)) : Bt w a n cap bs := by
  obtain ⟨a', n', cap', e, hl, hc, hm, hr⟩ := h
  cases e
  have hl2 : bs.length = n := by simpa [u8s] using hl
  unfold maxLen at hm
  refine ⟨fun h0 => ?_, hl2.symm, hc, by omega, fun h0 => ?_⟩
  · obtain ⟨b, o, ha, hcell⟩ := hr (by omega)
    have h1 : ∀ i v, bs[i]? = some v → w.cell? ⟨b, o + i, none⟩ = some (.int .u8 v) := fun i v hv => hcell i _ (by simp [u8s, hv])
    refine ⟨b, o, ha, ?_, Nat.le_refl _, h1⟩
    exact World.block_lt_of_cell? w _ (h1 0 (bs[0]'h0) (List.getElem?_eq_getElem h0))
  · obtain ⟨b, o, ha, _⟩ := hr h0
    exact ⟨b, o, ha⟩

set_option maxRecDepth 100000 in
set_option maxHeartbeats 1000000 in
theorem bldata_any (v : Value) (xs : List Int) (w : World) (hv : Sl w v (u8s xs)) :
    Calls Try.prog 25 #[v] w fun e w' => ∃ a n cap, e = .returned (.slice a n cap) ∧ w = w' ∧ n ≤ 80 ∧ ∃ bs, Sl w (.slice a n cap) (u8s bs) := by
  have hv0 := hv
  obtain ⟨a, n, cap, rfl, hl, hc, hm, hr⟩ := hv0
  have hm2 : (n : Int) ≤ 9223372036854775807 := by unfold maxLen at hm; omega
  have HV := Lib.hid hv
  have HL := Lib.hid hl
  have HC := Lib.hid hc
  have HM := Lib.hid hm
  have HR := Lib.hid hr
  clear hv hl hc hm hr
  by_cases hn : 80 < n
  · have h80 : 80 ≤ cap := by have := HC.out; omega
    have h80i : (80 : Int) ≤ (cap : Int) := by omega
    go_enter Try.func25, Try.ntmps25
    go_wp2_with fail
    go_ret
    refine ⟨_, _, _, rfl, rfl, Nat.le_refl _, xs.take 80, a, 80, cap, rfl, ?_, h80, HM.out, fun h0 => ?_⟩
    · have := HL.out
      simp [u8s] at this ⊢
      omega
    · obtain ⟨b, o, ha, hcell⟩ := HR.out (by omega)
      refine ⟨b, o, ha, fun i u hu => hcell i u ?_⟩
      unfold u8s at hu ⊢
      rw [List.map_take] at hu
      rw [List.getElem?_take] at hu
      split at hu
      · exact hu
      · cases hu
  · go_enter Try.func25, Try.ntmps25
    go_wp2_with fail
    go_ret
    exact ⟨_, _, _, rfl, rfl, by omega, xs, HV.out⟩
end Go.Proofs.Ytbcbkieebelleaa
