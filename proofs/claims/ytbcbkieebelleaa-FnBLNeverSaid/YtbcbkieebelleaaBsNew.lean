/- Walks of bitset.New: a new bitset with no bit set; and small functions of package bitset. -/
import Derived.Test.YtbcbkieebelleaaBsBits
import Derived.Defers
import Derived.Recover
namespace Go.Proofs.Ytbcbkieebelleaa
set_option linter.unusedVariables false
open Go.RowKit

/-- a *BitSet at block p: its length, its words, in memory from block B on; the slice's capacity is cap -/
def Bs (B : Nat) (w : World) (p L : Nat) (ws : List Nat) (cap : Nat) : Prop :=
  ∃ g, B ≤ p ∧ g ≠ p ∧ Blk w p 91 #[.int .u64 (L : Int), .slice (some ⟨g, 0, none⟩) ws.length cap] ∧
    w.ownsRow B 52 1 (.slice (some ⟨g, 0, none⟩) ws.length cap) ws.length (u64s ws) ∧ ∀ x ∈ ws, x < 18446744073709551616

theorem info_w64 : (Try.prog.info? 52).map (fun i => (i.zero, i.size, i.bytes)) = some (some (.int .u64 0), 1, 8) := by kernel_rfl

set_option maxHeartbeats 400000 in
theorem needed_any (L : Int) (w : World) (h0 : 0 ≤ L) (hL : L ≤ 1000000) :
    Calls Try.prog 75 #[.int .u64 L] w fun e w' => e = .returned (.int .i64 ((L + 63) / 64)) ∧ w = w' := by
  go_enter Try.func75, Try.ntmps75
  go_wp2
  go_ret
  exact ⟨rfl, rfl⟩

theorem new_idle (p : Addr) (w : World) :
    CallsD Try.prog 74 #[.pointer (some p)] .returning w fun e u' w' => e = .returned (.tuple #[]) ∧ u' = .returning ∧ w' = w := by
  refine callsD_of_wpS Try.func74 rfl fun c₀ cs hu => ?_
  apply wpS_seq
  apply wpS_region
  simp [wpOpsS, go_sem, recoverD, hu, Try.ntmps74, Exit.thenS]
  apply wpS_seq
  apply wpS_region
  simp [wpOpsS, go_sem, hu, Exit.thenS]
  refine wpS_cond (t := false) (by simp [Act.eval, Array.replicate]) ?_
  simp only [Bool.false_eq_true, if_false]
  refine wpS_of_wp (wp_skip ?_)
  cases c₀
  simp_all [bodyPostS, results, Try.results74]

set_option maxHeartbeats 1000000 in
theorem new_any (L : Nat) (w : World) (hL : L ≤ 1000000) :
    Calls Try.prog 56 #[.int .u64 (L : Int)] w fun e w' => ∃ p, e = .returned (.pointer (some ⟨p, 0, none⟩)) ∧ Bs w.heap.size w' p L (List.replicate ((L + 63) / 64) 0) ((L + 63) / 64) ∧ Below w.heap.size w w' := by
  obtain ⟨n, hn⟩ : ∃ n : Nat, (L + 63) / 64 = n := ⟨_, rfl⟩
  have hn2 : ((L : Int) + 63) / 64 = (n : Int) := by omega
  have hn3 : n ≤ 100000 := by omega
  rw [hn]
  clear hn
  have hmf : ∀ (fn : Fn) (first cap : Array Value) (w : World), (Instr.makeFunc fn first cap).run Try.prog w = .ok (.func fn first cap) w := fun _ _ _ _ => rfl
  go_enter_defers Try.func56, Try.ntmps56
  go_wp2_with fail
  refine (needed_any _ _ (by omega) (by omega)).mono ?_
  rintro e w' ⟨rfl, rfl⟩
  rw [hn2]
  go_wp2_with (at_make; refine wpList_make1 rfl _ _ 37 rfl (w.heap.size + 1) 52 (.int .u64 0) 8 Try.underlying37 info_w64 rfl _ _ _ _ n rfl rfl rfl rfl (by omega) (by unfold maxLen; omega) (by simp) ?_; intro w1 hown1 hb1 hs1; have f1 : w1.frozen? ⟨w.heap.size, 0, none⟩ = false := (hb1.frozen (by simp)).trans ((One.new w 73 (.pointer none)).free); have c1 : w1.cell? ⟨w.heap.size, 0, none⟩ = some (.pointer none) := (hb1.cell (by simp)).trans ((One.new w 73 (.pointer none)).cell); have hz := hb1.size; rw [World.size_alloc] at hz hs1; have hlt : w.heap.size < w1.heap.size := by omega)
  have hb0 : Below w.heap.size w w1 := ((Below.refl _ _).alloc (Nat.le_refl _) _).trans (hb1.mono (by simp))
  simp only [World.size_alloc] at hown1
  refine leaves_cons (f := 74) (args := #[.pointer (some ⟨w.heap.size, 0, none⟩)]) (by simp) (by simp [go_sem]) ?_
  refine (new_idle ⟨w.heap.size, 0, none⟩ _).mono ?_
  rintro e u' w'' ⟨rfl, rfl, rfl⟩
  have hc : (((w1.setCell ⟨w.heap.size, 0, none⟩ (.pointer (some ⟨w1.heap.size, 0, none⟩))).setCell ⟨w.heap.size, 0, none⟩ (.pointer (some ⟨w1.heap.size, 0, none⟩))).alloc
      (.cells #[.int .u64 (L : Int), .slice (some ⟨w.heap.size + 1, 0, none⟩) n n] 91)).cell? ⟨w.heap.size, 0, none⟩ = some (.pointer (some ⟨w1.heap.size, 0, none⟩)) := by
    go_simp
  refine ⟨.pointer (some ⟨w1.heap.size, 0, none⟩), ?_, ?_⟩
  · simp [results, Try.results56, go_sem, hc]
  · have hblk := Blk.new ((w1.setCell ⟨w.heap.size, 0, none⟩ (.pointer (some ⟨w1.heap.size, 0, none⟩))).setCell ⟨w.heap.size, 0, none⟩ (.pointer (some ⟨w1.heap.size, 0, none⟩))) 91 #[.int .u64 (L : Int), .slice (some ⟨w.heap.size + 1, 0, none⟩) n n]
    have hsz : ((w1.setCell ⟨w.heap.size, 0, none⟩ (.pointer (some ⟨w1.heap.size, 0, none⟩))).setCell ⟨w.heap.size, 0, none⟩ (.pointer (some ⟨w1.heap.size, 0, none⟩))).heap.size = w1.heap.size := by simp [World.setCell]
    rw [hsz] at hblk
    have hown := ((ownsRow_setCell_below (ownsRow_setCell_below hown1 (a := ⟨w.heap.size, 0, none⟩) (by simp) (.pointer (some ⟨w1.heap.size, 0, none⟩))) (a := ⟨w.heap.size, 0, none⟩) (by simp) (.pointer (some ⟨w1.heap.size, 0, none⟩))).alloc (.cells #[.int .u64 (L : Int), .slice (some ⟨w.heap.size + 1, 0, none⟩) n n] 91))
    refine ⟨w1.heap.size, rfl, ⟨w.heap.size + 1, by omega, by omega, ?_, ?_, ?_⟩, ?_⟩
    · rw [List.length_replicate]; exact hblk
    · rw [List.length_replicate]
      have e : u64s (List.replicate n 0) = List.replicate n (.int .u64 0) := by simp [u64s]
      rw [e]
      exact ownsRow_weaken hown (by omega)
    · intro x hx
      have := List.eq_of_mem_replicate hx
      omega
    · exact ((hb0.setCell (Nat.le_refl _) _).setCell (Nat.le_refl _) _).alloc (by rw [hsz]; omega) _
end Go.Proofs.Ytbcbkieebelleaa
