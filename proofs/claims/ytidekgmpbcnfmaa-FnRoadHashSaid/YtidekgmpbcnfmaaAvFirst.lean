/- The walk of spec.AVFirst: of the entries with one key the first. -/
import Derived.Test.YtidekgmpbcnfmaaAvFind
namespace Go.Proofs.Ytidekgmpbcnfmaa
set_option linter.unusedVariables false
open Go.RowKit Avm

def firS (out : Lst) (x : Int × Int) : Lst := if (look out x.1).isSome then out else out ++ [x]
def firstL (l : Lst) : Lst := l.foldl firS []
theorem firstL_snoc (l : Lst) (i : Nat) (h : i < l.length) : firstL (l.take (i + 1)) = firS (firstL (l.take i)) (l.getD i (0, 0)) := by
  unfold firstL
  rw [List.take_succ_eq_append_getElem h, List.foldl_append]
  simp [List.getD_eq_getElem?_getD, h]
theorem firS_len (out : Lst) (x : Int × Int) : (firS out x).length ≤ out.length + 1 ∧ out.length ≤ (firS out x).length := by
  unfold firS
  split <;> simp
theorem foldl_firS_len (l : Lst) : ∀ out : Lst, (l.foldl firS out).length ≤ out.length + l.length := by
  induction l with
  | nil => intro out; simp
  | cons x l ih =>
    intro out
    have h1 := ih (firS out x)
    have h2 := (firS_len out x).1
    simp only [List.foldl_cons, List.length_cons]
    omega
theorem firstL_len (l : Lst) : (firstL l).length ≤ l.length := by
  have := foldl_firS_len l []
  unfold firstL
  simpa using this

theorem cellA {w : World} {b o : Nat} {u : Value} (h : w.cell? ⟨b, o, none⟩ = some u) (x : Obj) : (w.alloc x).cell? ⟨b, o, none⟩ = some u := (((Below.refl w.heap.size w).alloc (Nat.le_refl _) x).cell (World.block_lt_of_cell? _ _ h)).trans h

def FirstLoop (l : Lst) (n G : Nat) (w : World) (k : Nat) (s3 idx : Value) (wr : World) : Prop :=
  ∃ (j m : Nat) (q : Option Addr) (c : Nat), s3 = .slice q m c ∧ idx = .int .i64 (j : Int) ∧ j + k = n ∧ m = (firstL (l.take j)).length ∧ wr.ownsRow G 25 2 (.slice q m c) m (aes (firstL (l.take j))).flatten ∧ Below G w wr

set_option maxRecDepth 100000 in
set_option maxHeartbeats 2000000 in
theorem avfirst_any (v : Value) (l : Lst) (w : World) (hv : Rw 2 w v (aes l)) (hn : l.length ≤ 1000) :
    Calls Try.prog 5 #[v] w fun e w' => ∃ q c, e = .returned (.slice q (firstL l).length c) ∧ w'.ownsRow w.heap.size 25 2 (.slice q (firstL l).length c) (firstL l).length (aes (firstL l)).flatten ∧ Below w.heap.size w w' := by
  obtain ⟨a, n, cap, rfl, hl, hc, hm, hr⟩ := hv
  rw [aes_len] at hl
  have HR := Lib.hid hr
  have HN := Lib.hid hl
  obtain ⟨G, hG⟩ : ∃ G, w.heap.size = G := ⟨_, rfl⟩
  have HG := Lib.hid hG
  rw [hl] at hn
  clear hl hr hm hc hG
  go_enter Try.func5, Try.ntmps5
  go_wp2_with fail
  go_loopg [3, 5, 6, 7, 10] n (fun k s3 s5 s6 s7 idx wr => FirstLoop l n G w k s3 idx wr)
  case atStart => exact ⟨0, 0, none, 0, rfl, rfl, by omega, rfl, World.ownsRow_nil _ _ _ _, Below.refl _ _⟩
  case round =>
    obtain ⟨j, m, q, c, rfl, rfl, hjk, hml, hown, hbel⟩ := hrel
    have HO := Lib.hid hown
    have HB := Lib.hid hbel
    have HML := Lib.hid hml
    have hsz : G ≤ wr.heap.size := by have := hbel.size; rw [← HG.out]; exact this
    have hmn : m ≤ 1000 := by
      rw [hml]
      have h1 := firstL_len (l.take j)
      have h2 : (l.take j).length ≤ l.length := by rw [List.length_take]; omega
      have := HN.out
      omega
    clear hml
    by_cases hj : j < n
    · obtain ⟨b, off, rfl, hcell⟩ := HR.out (by omega)
      have ha := aes_at l j (by rw [HN.out]; exact hj)
      have e0 := hcell j _ ha 0 _ rfl
      have e1 := hcell j _ ha 1 _ rfl
      rw [← hbel.cell (by rw [← HG.out]; exact World.block_lt_of_cell? w _ e0)] at e0
      rw [← hbel.cell (by rw [← HG.out]; exact World.block_lt_of_cell? w _ e1)] at e1
      have hds := firstL_snoc l j (by rw [HN.out]; exact hj)
      obtain ⟨k0, hk0⟩ : ∃ x, (l.getD j (0, 0)).1 = x := ⟨_, rfl⟩
      obtain ⟨v0, hv0⟩ : ∃ x, (l.getD j (0, 0)).2 = x := ⟨_, rfl⟩
      have hp : l.getD j (0, 0) = (k0, v0) := by rw [← hk0, ← hv0]
      rw [hk0] at e0
      rw [hv0] at e1
      rw [hp] at hds
      have HDS := Lib.hid hds
      have e0' : wr.cell? ⟨b, off + j * 2, none⟩ = some (.int .i64 k0) := by simpa using e0
      have e1' : wr.cell? ⟨b, off + j * 2 + 1, none⟩ = some (.int .i64 v0) := by rw [Nat.add_assoc]; exact e1
      have i1 : (j : Int) < (n : Int) := by omega
      have i2 : (0 : Int) ≤ (j : Int) := by omega
      have hoa := hown.alloc (.cells #[.int .i64 k0, .int .i64 v0] 25)
      have HOA := Lib.hid hoa
      have HBA := Lib.hid (hbel.alloc hsz (.cells #[.int .i64 k0, .int .i64 v0] 25))
      have HBK := Lib.hid (Blk.new wr 25 #[.int .i64 k0, .int .i64 v0])
      have hone : ∀ u ∈ (#[.int .i64 k0, .int .i64 v0] : Array Value).toList, u.oneCell' = true := by
        intro u hu
        simp at hu
        rcases hu with rfl | rfl <;> rfl
      have HON := Lib.hid hone
      obtain ⟨F, hF⟩ : ∃ F, firstL (l.take j) = F := ⟨_, rfl⟩
      have HFF := Lib.hid hF
      rw [hF] at HOA HDS HML
      have hFm : F.length ≤ 100000 := by have := HML.out; omega
      have hmF := HML.out
      have HFI := Lib.hid (avfind_any (.slice q m c) F k0 (wr.alloc (.cells #[.int .i64 k0, .int .i64 v0] 25)) (Rw.of_owns (aes_two _) (by decide) (by rw [hmF] at HOA ⊢; exact HOA.out)) hFm)
      clear hown hbel hcell ha e0 e1 hds hk0 hv0 hp hone hoa hF HO HB hmF
      cases gk with
      | zero => omega
      | succ k =>
        cases hlk : look F k0 with
        | some y =>
          rw [hlk] at HFI
          have HFI2 : Hid (Calls Try.prog 13 #[.slice q m c, .int .i64 k0] (wr.alloc (.cells #[.int .i64 k0, .int .i64 v0] 25)) fun e w' => e = .returned (.tuple #[.agg #[.int .i64 k0, .int .i64 y], .bool true]) ∧ Below (wr.alloc (.cells #[.int .i64 k0, .int .i64 v0] 25)).heap.size (wr.alloc (.cells #[.int .i64 k0, .int .i64 v0] 25)) w') := HFI
          have HLK := Lib.hid hlk
          clear HFI hlk
          go_wp2_with fail
          refine HFI2.out.mono ?_
          rintro e wb ⟨rfl, hbb⟩
          have hszb := hbb.size
          rw [World.size_alloc] at hszb
          have hb2 := HBA.out.trans (hbb.mono (by rw [World.size_alloc]; omega))
          have ho2 := (Fr.of_below [] hbb).own HOA.out (fun _ _ h => by cases h)
          have HO2 := Lib.hid (ho2.alloc (.cells #[.int .i64 k0, .int .i64 y] 25))
          have HB2 := Lib.hid (hb2.alloc (by omega) (.cells #[.int .i64 k0, .int .i64 y] 25))
          clear hbb hb2 ho2
          go_wp2_with fail
          go_roundg k
          case measure => omega
          case rel =>
            have hfs : firS F (k0, v0) = F := by unfold firS; rw [HLK.out]; rfl
            exact ⟨j + 1, m, q, c, rfl, by go_num, by omega, by rw [HDS.out, hfs]; exact HML.out, by rw [HDS.out, hfs]; exact HO2.out, HB2.out⟩
        | none =>
          rw [hlk] at HFI
          have HFI2 : Hid (Calls Try.prog 13 #[.slice q m c, .int .i64 k0] (wr.alloc (.cells #[.int .i64 k0, .int .i64 v0] 25)) fun e w' => e = .returned (.tuple #[.agg #[.int .i64 0, .int .i64 0], .bool false]) ∧ Below (wr.alloc (.cells #[.int .i64 k0, .int .i64 v0] 25)).heap.size (wr.alloc (.cells #[.int .i64 k0, .int .i64 v0] 25)) w') := HFI
          have HLK := Lib.hid hlk
          clear HFI hlk
          go_wp2_with fail
          refine HFI2.out.mono ?_
          rintro e wb ⟨rfl, hbb⟩
          have hszb := hbb.size
          rw [World.size_alloc] at hszb
          have hb2 := HBA.out.trans (hbb.mono (by rw [World.size_alloc]; omega))
          have ho2 := (Fr.of_below [] hbb).own HOA.out (fun _ _ h => by cases h)
          have HO2 := Lib.hid (ho2.alloc (.cells #[.int .i64 0, .int .i64 0] 25))
          have HB2 := Lib.hid (hb2.alloc (by omega) (.cells #[.int .i64 0, .int .i64 0] 25))
          have hbk := HBK.out.next hbb
          have c0 := cellA (Blk.cell hbk 0 rfl) (.cells #[.int .i64 0, .int .i64 0] 25)
          have c1 := cellA (Blk.cell hbk 1 rfl) (.cells #[.int .i64 0, .int .i64 0] 25)
          clear hbb hb2 ho2 hbk
          go_wp2_with (at_builtin; refine wpList_appendS rfl _ _ 22 rfl G 2 25 (.agg #[.int .i64 0, .int .i64 0]) 16 Try.underlying22 info_ave rfl (by decide) (.slice q m c) m (aes F).flatten rfl HO2.out #[.int .i64 k0, .int .i64 v0] (by rw [World.size_alloc]; rfl) rfl HON.out (by unfold maxLen; omega) (by omega) (by rw [World.size_alloc]; omega) ?_; intro g5 k5 w5 hown5 hg5 hb5; have HO5 := Lib.hid hown5; have HB5 := Lib.hid (HB2.out.trans hb5); clear hown5 hg5 hb5)
          go_roundg k
          case measure => omega
          case rel =>
            have hfs : firS F (k0, v0) = F ++ [(k0, v0)] := by unfold firS; rw [HLK.out]; rfl
            exact ⟨j + 1, m + 1, _, k5, rfl, by go_num, by omega, by rw [HDS.out, hfs, List.length_append, ← HML.out]; rfl, by rw [HDS.out, hfs, aes, List.map_append, List.flatten_append]; exact HO5.out, HB5.out⟩
    · obtain rfl : j = n := by omega
      rw [List.take_of_length_le (by rw [HN.out]; exact Nat.le_refl _)] at HO HML
      clear hown hbel
      go_wp2_with fail
      go_ret
      have hm2 := HML.out
      subst hm2
      exact ⟨q, c, rfl, by rw [HG.out]; exact HO.out, by rw [HG.out]; exact HB.out⟩
end Go.Proofs.Ytidekgmpbcnfmaa
