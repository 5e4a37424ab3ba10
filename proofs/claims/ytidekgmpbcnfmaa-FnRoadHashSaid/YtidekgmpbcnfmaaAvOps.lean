/- Walks of the AVL tree's copy, Insert, Get, Len, NewImmutable, and of impl.avEntries. -/
import Derived.Test.YtidekgmpbcnfmaaAvTree
namespace Go.Proofs.Ytidekgmpbcnfmaa
set_option linter.unusedVariables false
open Go.RowKit Avm

set_option maxRecDepth 100000 in
theorem newnode_nil (w : World) :
    Calls Try.prog 46 #[Value.nilIface] w fun e w' => e = .returned (.pointer (some ⟨w.heap.size, 0, none⟩)) ∧ Blk w' w.heap.size 94 #[.int .i8 0, .pointer none, .pointer none, Value.nilIface] ∧ Below w.heap.size w w' ∧ w'.heap.size = w.heap.size + 1 := by
  go_enter Try.func46, Try.ntmps46
  go_wp2_with fail
  go_ret
  exact ⟨rfl, Blk.new _ _ _, (Below.refl _ _).alloc (Nat.le_refl _) _, by simp⟩

theorem len_any (i : Nat) (t : T) (w : World) (h : Tr w i t) : Calls Try.prog 43 #[.pointer (some ⟨i, 0, none⟩)] w fun e w' => e = .returned (.int .u64 (t.toL.length : Int)) ∧ w' = w := by
  obtain ⟨a, b, c, hh⟩ := h.head
  have c1 := Blk.cell hh 1 rfl
  clear h hh
  go_enter Try.func43, Try.ntmps43
  go_wp2_with fail
  go_ret
  exact ⟨rfl, rfl⟩

/-- the part of a copy behind the root's copy -/
def CopyEnd (w : World) (i : Nat) (t : T) (e : Ending) (w' : World) : Prop :=
  ∃ i' t', e = .returned (.pointer (some ⟨i', 0, none⟩)) ∧ Tr w' i' t' ∧ t'.toL = t.toL ∧ w.heap.size ≤ i' ∧ (∀ b ∈ rb t', w.heap.size ≤ b) ∧ Below w.heap.size w w' ∧ ∀ b ∈ t'.blocks, b ∈ t.blocks ∨ w.heap.size ≤ b

set_option maxRecDepth 100000 in
theorem copyimm_any (i : Nat) (t : T) (w : World) (h : Tr w i t) :
    Calls Try.prog 39 #[.pointer (some ⟨i, 0, none⟩)] w fun e w' => CopyEnd w i t e w' := by
  obtain ⟨a, b, c, hh⟩ := h.head
  have c0 := Blk.cell hh 0 rfl
  have c1 := Blk.cell hh 1 rfl
  have HH := Lib.hid hh
  have H := Lib.hid h
  cases t with
  | nil =>
    have c0 : w.cell? ⟨i, 0, none⟩ = some (.pointer none) := c0
    clear h hh
    go_enter Try.func39, Try.ntmps39
    have HH1 := HH
    go_wp2_with fail
    go_region_law ((go_simp; go_at_call 46; refine Calls.mono (newnode_nil _) ?_; rintro e w2 ⟨rfl, hd2, hb2, hs2⟩; have HB2 := Lib.hid hb2; have hh2 := (show Blk w.drew i _ _ from HH1.out).next hb2; have c1' := Blk.cell hh2 1 rfl; have d0 : w2.cell? ⟨w.heap.size, 0, none⟩ = some (.int .i8 0) := Blk.cell hd2 0 rfl; have d1 : w2.cell? ⟨w.heap.size, 1, none⟩ = some (.pointer none) := Blk.cell hd2 1 rfl; have d2 : w2.cell? ⟨w.heap.size, 2, none⟩ = some (.pointer none) := Blk.cell hd2 2 rfl; have d3 : w2.cell? ⟨w.heap.size, 3, none⟩ = some Value.nilIface := Blk.cell hd2 3 rfl; clear hd2 hb2 hh2))
    all_goals go_wp2_with fail
    all_goals go_ret
    all_goals
      have hsz : w2.heap.size = w.heap.size + 1 := hs2
      have hk := Blk.new w2 96 #[.pointer none, .int .u64 ((T.nil.toL.length : Nat) : Int), .int .i8 0, .pointer none, .pointer none, Value.nilIface]
      rw [hsz] at hk
      exact ⟨w.heap.size + 1, .nil, rfl, ⟨⟨0, none, none, hk⟩, trivial, H.out.nd, trivial, H.out.srt⟩, rfl, by omega, by simp [rb], ((Below.refl _ _).drew.trans HB2.out).alloc (by omega) _, fun b hb => .inl hb⟩
  | nd b0 bal0 l0 k0 v0 r0 =>
    have c0 : w.cell? ⟨i, 0, none⟩ = some (.pointer (some ⟨b0, 0, none⟩)) := c0
    have hcp := copynode_any b0 bal0 (ptr l0) (ptr r0) k0 v0 w h.sub.1
    have HCP := Lib.hid hcp
    clear h hh hcp
    go_enter Try.func39, Try.ntmps39
    go_wp2_with fail
    refine HCP.out.mono ?_
    rintro e w1 ⟨rfl, hn1, hb1, hs1⟩
    have HB1 := Lib.hid hb1
    have HN1 := Lib.hid hn1
    have HS1 := Lib.hid hs1
    have hh1 : Blk w1 i 96 #[.pointer (some ⟨b0, 0, none⟩), .int .u64 ((T.nd b0 bal0 l0 k0 v0 r0).toL.length : Int), .int .i8 a, .pointer b, .pointer c, Value.nilIface] := HH.out.next hb1
    obtain ⟨n, hn⟩ : ∃ n, (T.nd b0 bal0 l0 k0 v0 r0).toL.length = n := ⟨_, rfl⟩
    rw [hn] at hh1
    have HN := Lib.hid hn
    have c1 := Blk.cell hh1 1 rfl
    have hlt1 := hh1.lt
    have HH1 := Lib.hid hh1
    clear hb1 hn1 hs1 hh1 c0 hn
    go_wp2_with fail
    go_region_law ((go_simp; go_at_call 46; refine Calls.mono (newnode_nil _) ?_; rintro e w2 ⟨rfl, hd2, hb2, hs2⟩; have HB2 := Lib.hid hb2; have hh2 := (show Blk w1.drew i _ _ from HH1.out).next hb2; have c1' := Blk.cell hh2 1 rfl; have d0 : w2.cell? ⟨w1.heap.size, 0, none⟩ = some (.int .i8 0) := Blk.cell hd2 0 rfl; have d1 : w2.cell? ⟨w1.heap.size, 1, none⟩ = some (.pointer none) := Blk.cell hd2 1 rfl; have d2 : w2.cell? ⟨w1.heap.size, 2, none⟩ = some (.pointer none) := Blk.cell hd2 2 rfl; have d3 : w2.cell? ⟨w1.heap.size, 3, none⟩ = some Value.nilIface := Blk.cell hd2 3 rfl; clear hd2 hb2 hh2))
    all_goals go_wp2_with fail
    all_goals go_ret
    all_goals
      have hsz : w2.heap.size = w1.heap.size + 1 := hs2
      have hk := Blk.new w2 96 #[.pointer (some ⟨w.heap.size, 0, none⟩), .int .u64 (n : Int), .int .i8 0, .pointer none, .pointer none, Value.nilIface]
      rw [hsz] at hk
      have hs1 := HS1.out
      have hb12 : Below w1.heap.size w1 (w2.alloc (.cells #[.pointer (some ⟨w.heap.size, 0, none⟩), .int .u64 (n : Int), .int .i8 0, .pointer none, .pointer none, Value.nilIface] 96)) := ((Below.refl _ _).drew.trans HB2.out).alloc (by omega) _
      have hb : Below w.heap.size w (w2.alloc (.cells #[.pointer (some ⟨w.heap.size, 0, none⟩), .int .u64 (n : Int), .int .i8 0, .pointer none, .pointer none, Value.nilIface] 96)) := HB1.out.trans (hb12.mono (by omega))
      have hnd := H.out.nd
      have hlt := H.out.sub.lt
      simp only [T.blocks, List.nodup_cons] at hnd hlt
      refine ⟨w1.heap.size + 1, .nd w.heap.size bal0 l0 k0 v0 r0, rfl, ⟨⟨0, none, none, ?_⟩, ⟨HN1.out.below hb12, H.out.sub.2.1.below hb, H.out.sub.2.2.below hb⟩, ?_, H.out.v, H.out.srt⟩, rfl, by omega, by simp [rb], hb, fun b hb => ?_⟩
      · show Blk _ _ _ #[.pointer (some ⟨w.heap.size, 0, none⟩), .int .u64 (((T.nd b0 bal0 l0 k0 v0 r0).toL.length : Nat) : Int), _, _, _, _]
        rw [HN.out]; exact hk
      · simp only [T.blocks, List.nodup_cons]
        exact ⟨fun e => by have := hlt w.heap.size (List.mem_cons_of_mem _ e); omega, hnd.2⟩
      · rcases List.mem_cons.1 hb with rfl | hb
        · exact .inr (Nat.le_refl _)
        · exact .inl (List.mem_cons_of_mem _ hb)
end Go.Proofs.Ytidekgmpbcnfmaa
