/- Walks of impl.avEntries and of NewImmutable. -/
import Derived.Test.YtidekgmpbcnfmaaAvInsert
import Derived.Test.YtidekgmpbcnfmaaApRow
import Derived.BigRegion
namespace Go.Proofs.Ytidekgmpbcnfmaa
set_option linter.unusedVariables false
open Go.RowKit Avm

def aes (es : List (Int × Int)) : List (List Value) := es.map fun e => [.int .i64 e.1, .int .i64 e.2]
theorem aes_len (es : List (Int × Int)) : (aes es).length = es.length := by simp [aes]
theorem aes_at (es : List (Int × Int)) (i : Nat) (h : i < es.length) : (aes es)[i]? = some [.int .i64 (es.getD i (0, 0)).1, .int .i64 (es.getD i (0, 0)).2] := by
  simp [aes, List.getElem?_eq_getElem h]
theorem aes_two (es : List (Int × Int)) : ∀ r ∈ aes es, r.length = 2 := by
  intro r hr
  obtain ⟨e, _, rfl⟩ := List.mem_map.1 hr
  rfl
theorem ents_snoc (es : List (Int × Int)) (i : Nat) (h : i < es.length) : ents (es.take (i + 1)) = ents (es.take i) ++ [.iface 99 (.agg #[.int .i64 (es.getD i (0, 0)).1, .int .i64 (es.getD i (0, 0)).2])] := by
  unfold ents
  rw [List.take_succ_eq_append_getElem h, List.map_append]
  simp [entv, List.getD_eq_getElem?_getD, h]

def EntLoop (es : List (Int × Int)) (n : Nat) (w : World) (k : Nat) (s3 idx : Value) (wr : World) : Prop :=
  ∃ (j : Nat) (q : Option Addr) (c : Nat), s3 = .slice q j c ∧ idx = .int .i64 (j : Int) ∧ j + k = n ∧ wr.ownsRow w.heap.size 92 1 (.slice q j c) j (ents (es.take j)) ∧ Below w.heap.size w wr

set_option maxRecDepth 100000 in
set_option maxHeartbeats 2000000 in
theorem aventries_any (v : Value) (es : List (Int × Int)) (w : World) (hv : Rw 2 w v (aes es)) (hn : es.length ≤ 1000) :
    Calls Try.prog 27 #[v] w fun e w' => ∃ u, e = .returned u ∧ Sl w' u (ents es) ∧ Below w.heap.size w w' := by
  obtain ⟨a, n, cap, rfl, hl, hc, hm, hr⟩ := hv
  rw [aes_len] at hl
  have HR := Lib.hid hr
  have HN := Lib.hid hl
  rw [hl] at hn
  clear hl hc hm hr
  go_enter Try.func27, Try.ntmps27
  go_wp2_with fail
  go_loopg [3, 5, 8] n (fun k s3 s5 idx wr => EntLoop es n w k s3 idx wr)
  case atStart => exact ⟨0, none, 0, rfl, rfl, by omega, World.ownsRow_nil _ _ _ _, Below.refl _ _⟩
  case round =>
    obtain ⟨j, q, c, rfl, rfl, hjk, hown, hbel⟩ := hrel
    have HO := Lib.hid hown
    have HB := Lib.hid hbel
    have hsz := hbel.size
    by_cases hj : j < n
    · obtain ⟨b, off, rfl, hcell⟩ := HR.out (by omega)
      have ha := aes_at es j (by rw [HN.out]; exact hj)
      have e0 := hcell j _ ha 0 _ rfl
      have e1 := hcell j _ ha 1 _ rfl
      rw [← hbel.cell (World.block_lt_of_cell? w _ e0)] at e0
      rw [← hbel.cell (World.block_lt_of_cell? w _ e1)] at e1
      have hsn := ents_snoc es j (by rw [HN.out]; exact hj)
      obtain ⟨k0, hk0⟩ : ∃ x, (es.getD j (0, 0)).1 = x := ⟨_, rfl⟩
      obtain ⟨v0, hv0⟩ : ∃ x, (es.getD j (0, 0)).2 = x := ⟨_, rfl⟩
      rw [hk0] at e0
      rw [hv0] at e1
      rw [hk0, hv0] at hsn
      have HSN := Lib.hid hsn
      have e0' : wr.cell? ⟨b, off + j * 2, none⟩ = some (.int .i64 k0) := by simpa using e0
      have e1' : wr.cell? ⟨b, off + j * 2 + 1, none⟩ = some (.int .i64 v0) := by rw [Nat.add_assoc]; exact e1
      have i1 : (j : Int) < (n : Int) := by omega
      have i2 : (0 : Int) ≤ (j : Int) := by omega
      have HOA := Lib.hid (HO.out.alloc (.cells #[.int .i64 k0, .int .i64 v0] 25))
      have HBA := Lib.hid (HB.out.alloc hsz (.cells #[.int .i64 k0, .int .i64 v0] 25))
      have hsa := HBA.out.size
      clear hown hbel hk0 hv0 hcell ha e0 e1 hsn
      cases gk with
      | zero => omega
      | succ k =>
        go_wp2_with (at_builtin; refine wpList_append1 rfl _ _ 70 rfl w.heap.size 92 Value.nilIface 16 Try.underlying70 info_entry rfl (.slice q j c) j _ rfl HOA.out (.iface 99 (.agg #[.int .i64 k0, .int .i64 v0])) (by rw [World.size_alloc]; rfl) rfl (by unfold maxLen; omega) (by omega) (by omega) ?_; intro g5 k5 w5 hown5 hg5 hb5; have HO5 := Lib.hid hown5; have HB5 := Lib.hid (HBA.out.trans hb5); clear hown5 hg5 hb5)
        go_roundg k
        case measure => omega
        case rel => exact ⟨j + 1, _, k5, rfl, by go_num, by omega, by rw [HSN.out]; exact HO5.out, HB5.out⟩
    · obtain rfl : j = n := by omega
      rw [List.take_of_length_le (by rw [HN.out]; exact Nat.le_refl _)] at hown
      have HO := Lib.hid hown
      clear hown hbel
      go_wp2_with fail
      go_ret
      exact ⟨_, rfl, Sl.of_owns HO.out, HB.out⟩

set_option maxRecDepth 100000 in
theorem newimm_any (w : World) : Calls Try.prog 25 #[] w fun e w' => ∃ i, e = .returned (.pointer (some ⟨i, 0, none⟩)) ∧ Tr w' i .nil ∧ w.heap.size ≤ i ∧ Below w.heap.size w w' := by
  go_enter Try.func25, Try.ntmps25
  go_wp2_with (go_at_call 38; go_in)
  go_end0
  go_wp2_with fail
  go_ret
  exact ⟨w.heap.size, rfl, ⟨⟨0, none, none, Blk.new w _ _⟩, trivial, List.nodup_nil, trivial, List.Pairwise.nil⟩, Nat.le_refl _, (Below.refl _ _).alloc (Nat.le_refl _) _⟩
end Go.Proofs.Ytidekgmpbcnfmaa
