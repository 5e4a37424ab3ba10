/- The walk of laws.avKeys: the keys, and what asks for them. -/
import Derived.Test.YtidekgmpbcnfmaaAvFirst
import Derived.Deep.DeepCutAuto
namespace Go.Proofs.Ytidekgmpbcnfmaa
set_option linter.unusedVariables false
open Go.RowKit Avm

def askE (l : Lst) : Lst := l.map fun x => (x.1, 0)
def keyV (l : Lst) : List Value := l.map fun x => Value.int .i64 x.1
theorem askE_len (l : Lst) : (askE l).length = l.length := by simp [askE]
theorem info_intK : (Try.prog.info? 3).map (fun i => (i.zero, i.size, i.bytes)) = some (some (.int .i64 0), 1, 8) := by kernel_rfl
theorem by_midK {P M : World → Prop} {wx : World} (h : M wx) (h2 : ∀ wx, M wx → P wx) : P wx := h2 wx h

theorem own_nK {w : World} {B : Nat} {e : TypeId} {z : Nat} {p : Option Addr} {m c n : Nat} {xs : List Value} (h : w.ownsRow B e z (.slice p m c) n xs) : m = n := by
  rcases h.2 with ⟨e, h0⟩ | ⟨g, cap, cur, e, _⟩
  · injection e with _ e; omega
  · injection e
def KeysMid (l : Lst) (G : Nat) (w : World) (j : Nat) (p9 : Option Addr) (m9 c9 : Nat) (p8 : Option Addr) (m8 c8 : Nat) (wx : World) : Prop :=
  ∃ (n9 n8 : Nat) (x9 x8 : List Value), wx.ownsRow G 25 2 (.slice p9 m9 c9) n9 x9 ∧ wx.ownsRow G 3 1 (.slice p8 m8 c8) n8 x8 ∧ Below G w wx ∧ (n9 = j + 1 ∧ (aes (askE (l.take (j + 1)))).flatten = x9) ∧ (n8 = j + 1 ∧ keyV (l.take (j + 1)) = x8)
theorem key_mid {l : Lst} {G : Nat} {w wx : World} {j : Nat} {p9 p8 : Option Addr} {m9 c9 m8 c8 n9 n8 : Nat} {x9 x8 : List Value} (h1 : wx.ownsRow G 25 2 (.slice p9 m9 c9) n9 x9) (h2 : wx.ownsRow G 3 1 (.slice p8 m8 c8) n8 x8) (h3 : Below G w wx) (e1 : n9 = j + 1 ∧ (aes (askE (l.take (j + 1)))).flatten = x9) (e2 : n8 = j + 1 ∧ keyV (l.take (j + 1)) = x8) : KeysMid l G w j p9 m9 c9 p8 m8 c8 wx := ⟨n9, n8, x9, x8, h1, h2, h3, e1, e2⟩
theorem KeysMid.fin {l : Lst} {G : Nat} {w : World} {j : Nat} {p9 : Option Addr} {m9 c9 : Nat} {p8 : Option Addr} {m8 c8 : Nat} {wx : World} (h : KeysMid l G w j p9 m9 c9 p8 m8 c8 wx) :
    m9 = j + 1 ∧ m8 = j + 1 ∧ wx.ownsRow G 25 2 (.slice p9 (j + 1) c9) (j + 1) (aes (askE (l.take (j + 1)))).flatten ∧ wx.ownsRow G 3 1 (.slice p8 (j + 1) c8) (j + 1) (keyV (l.take (j + 1))) ∧ Below G w wx := by
  obtain ⟨n9, n8, x9, x8, h1, h2, h3, ⟨rfl, rfl⟩, ⟨rfl, rfl⟩⟩ := h
  obtain rfl := own_nK h1
  obtain rfl := own_nK h2
  exact ⟨rfl, rfl, h1, h2, h3⟩

def KeysLoop (l : Lst) (n G : Nat) (w : World) (k : Nat) (s4 s5 idx : Value) (wr : World) : Prop :=
  ∃ (j : Nat) (q1 : Option Addr) (c1 : Nat) (q2 : Option Addr) (c2 : Nat), s4 = .slice q2 j c2 ∧ s5 = .slice q1 j c1 ∧ idx = .int .i64 (j : Int) ∧ j + k = n ∧ wr.ownsRow G 25 2 (.slice q1 j c1) j (aes (askE (l.take j))).flatten ∧ wr.ownsRow G 3 1 (.slice q2 j c2) j (keyV (l.take j)) ∧ Below G w wr

set_option maxRecDepth 100000 in
set_option maxHeartbeats 4000000 in
theorem avkeys_any (v : Value) (l : Lst) (w : World) (hv : Rw 2 w v (aes l)) (hn : l.length ≤ 1000) :
    Calls Try.prog 7 #[v] w fun e w' => ∃ q1 c1 q2 c2, e = .returned (.tuple #[.slice q2 l.length c2, .slice q1 l.length c1]) ∧ w'.ownsRow w.heap.size 25 2 (.slice q1 l.length c1) l.length (aes (askE l)).flatten ∧ Below w.heap.size w w' := by
  obtain ⟨a, n, cap, rfl, hl, hc, hm, hr⟩ := hv
  rw [aes_len] at hl
  have HR := Lib.hid hr
  have HN := Lib.hid hl
  obtain ⟨G, hG⟩ : ∃ G, w.heap.size = G := ⟨_, rfl⟩
  have HG := Lib.hid hG
  rw [hl] at hn ⊢
  clear hl hr hm hc hG
  go_enter Try.func7, Try.ntmps7
  go_wp2_with fail
  go_loopg [4, 5, 7, 10] n (fun k s4 s5 s7 idx wr => KeysLoop l n G w k s4 s5 idx wr)
  case atStart => exact ⟨0, none, 0, none, 0, rfl, rfl, rfl, by omega, World.ownsRow_nil _ _ _ _, World.ownsRow_nil _ _ _ _, Below.refl _ _⟩
  case round =>
    obtain ⟨j, q1, c1, q2, c2, rfl, rfl, rfl, hjk, ho1, ho2, hbel⟩ := hrel
    have hsz : G ≤ wr.heap.size := by have := hbel.size; rw [← HG.out]; exact this
    by_cases hj : j < n
    · obtain ⟨b, off, rfl, hcell⟩ := HR.out (by omega)
      have ha := aes_at l j (by rw [HN.out]; exact hj)
      have e0 := hcell j _ ha 0 _ rfl
      have e1 := hcell j _ ha 1 _ rfl
      rw [← hbel.cell (by rw [← HG.out]; exact World.block_lt_of_cell? w _ e0)] at e0
      rw [← hbel.cell (by rw [← HG.out]; exact World.block_lt_of_cell? w _ e1)] at e1
      have hsn : l.take (j + 1) = l.take j ++ [l.getD j (0, 0)] := by
        rw [List.take_succ_eq_append_getElem (by rw [HN.out]; exact hj)]; simp [List.getD_eq_getElem?_getD, HN.out, hj]
      obtain ⟨k0, hk0⟩ : ∃ x, (l.getD j (0, 0)).1 = x := ⟨_, rfl⟩
      obtain ⟨v0, hv0⟩ : ∃ x, (l.getD j (0, 0)).2 = x := ⟨_, rfl⟩
      have hp : l.getD j (0, 0) = (k0, v0) := by rw [← hk0, ← hv0]
      have s1 : (aes (askE (l.take (j + 1)))).flatten = (aes (askE (l.take j))).flatten ++ [[Value.int .i64 k0, Value.int .i64 0]].flatten := by
        rw [hsn, hp]
        simp [aes, askE]
      have s2 : keyV (l.take (j + 1)) = keyV (l.take j) ++ [Value.int .i64 k0] := by
        rw [hsn, hp]
        simp [keyV]
      rw [hk0] at e0
      rw [hv0] at e1
      have e0' : wr.cell? ⟨b, off + j * 2, none⟩ = some (.int .i64 k0) := by simpa using e0
      have e1' : wr.cell? ⟨b, off + j * 2 + 1, none⟩ = some (.int .i64 v0) := by rw [Nat.add_assoc]; exact e1
      have S1 := Lib.hid s1
      have S2 := Lib.hid s2
      have i1 : (j : Int) < (n : Int) := by omega
      have i2 : (0 : Int) ≤ (j : Int) := by omega
      have n1E : (Value.slice q1 j c1).ownBlock ≠ some wr.heap.size := fun e => by have := (own_lt ho1 _ (mem_obl.2 e)).1; omega
      have n2E : (Value.slice q2 j c2).ownBlock ≠ some wr.heap.size := fun e => by have := (own_lt ho2 _ (mem_obl.2 e)).1; omega
      have kE := Blk.new wr 25 #[.int .i64 k0, .int .i64 v0]
      have h1a := ho1.alloc (.cells #[.int .i64 k0, .int .i64 v0] 25)
      have h2a := ho2.alloc (.cells #[.int .i64 k0, .int .i64 v0] 25)
      have hba := hbel.alloc hsz (.cells #[.int .i64 k0, .int .i64 v0] 25)
      obtain ⟨E, hE⟩ : ∃ E, wr.heap.size = E := ⟨_, rfl⟩
      rw [hE] at kE n1E n2E
      obtain ⟨wa, hwa⟩ : ∃ wa, wa = wr.alloc (.cells #[.int .i64 k0, .int .i64 v0] 25) := ⟨_, rfl⟩
      rw [← hwa] at kE h1a h2a hba
      have HE := Lib.hid hE
      have HWA := Lib.hid hwa
      have hsa : G ≤ wa.heap.size := by have := hba.size; rw [← HG.out]; exact this
      clear hcell ha e0 e1 hk0 hv0 hp s1 s2 hsn ho1 ho2 hbel hE hwa
      cases gk with
      | zero => omega
      | succ k =>
        have H1A := Lib.hid h1a
        have H2A := Lib.hid h2a
        have HBA := Lib.hid hba
        have d12 := row_row h1a h2a (by decide)
        have d21 := row_row h2a h1a (by decide)
        have N1E := Lib.hid n1E
        have N2E := Lib.hid n2E
        have D12 := Lib.hid d12
        have D21 := Lib.hid d21
        have e0 := kE.cell 0 rfl
        have e1 := kE.cell 1 rfl
        have hEa := kE.lt
        have KE := Lib.hid kE
        have HMX := Lib.hid (show j + [[Value.int .i64 k0, Value.int .i64 0]].length ≤ maxLen by simp; unfold maxLen; omega)
        have HMY := Lib.hid (show (j + [[Value.int .i64 k0, Value.int .i64 0]].length) * 16 ≤ 140737488355328 by simp; omega)
        have HNX := Lib.hid (show j + [Value.int .i64 k0].length ≤ maxLen by simp; unfold maxLen; omega)
        have HNY := Lib.hid (show (j + [Value.int .i64 k0].length) * 8 ≤ 140737488355328 by simp; omega)
        clear h1a h2a hba n1E n2E d12 d21 kE
        go_upto_region 6 with fail
        rw [← HWA.out, HE.out]
        clear HE HWA e0' e1'
        go_region_law ((first
          | (refine step_apRw (by rfl) (.tmp 19) (.tmp 23) 22 (by rfl) G 2 25 (.agg #[.int .i64 0, .int .i64 0]) 16 Try.underlying22 info_ave rfl (by decide) (.slice q1 j c1) j (aes (askE (l.take j))).flatten (by rfl) ?_ _ [[Value.int .i64 k0, Value.int .i64 0]] (by rfl) ?_ (by simp) (by simp [Value.oneCell']) HMX.out HMY.out ?_ ?_; (repeat (first | with_reducible exact H1A.out | with_reducible exact H1B.out | with_reducible refine World.ownsRow.alloc ?_ _ | with_reducible refine row_drew ?_)); (first | show Rw 2 _ (.slice (some ⟨wa.heap.size, 0, none⟩) 1 1) _ | show Rw 2 _ (.slice (some ⟨wa.heap.size + 1, 0, none⟩) 1 1) _ | show Rw 2 _ (.slice (some ⟨w8.heap.size, 0, none⟩) 1 1) _); (repeat (first | ((with_reducible refine rw_oneE _ _ _ _ _ ?_); first | rfl | exact (World.size_alloc _ _).symm | (simp; done)) | with_reducible exact HRWa.out | with_reducible exact HRWb.out | with_reducible refine Rw.drew' ?_ | with_reducible refine Rw.alloc' ?_ _)); (first | exact hs8 | exact hsa | (simp; omega)); intro p9 m9 c9 w9 hown9 hg9 hb9; (first | (refine (have HSLa : Hid (Sl w9 (.slice (some ⟨wa.heap.size, 0, none⟩) 1 1) [Value.int .i64 k0]) := Lib.hid (Sl.fr1 ?_ (Fr.of_grown (v' := .slice q1 j c1) hg9 (fun k hk => .inl hk)) (fun e => by have := (own_lt H1A.out _ e).1; omega)); ?_); focus ((repeat (first | ((with_reducible refine sl_oneE _ _ _ _ ?_); first | rfl | exact (World.size_alloc _ _).symm | (simp; done)) | with_reducible refine Sl.drew' ?_ | with_reducible refine Sl.alloc' ?_ _)); done)) | skip); (first | (refine (have HSLb : Hid (Sl w9 (.slice (some ⟨wa.heap.size + 1, 0, none⟩) 1 1) [Value.int .i64 k0]) := Lib.hid (Sl.fr1 ?_ (Fr.of_grown (v' := .slice q1 j c1) hg9 (fun k hk => .inl hk)) (fun e => by have := (own_lt H1A.out _ e).1; omega)); ?_); focus ((repeat (first | ((with_reducible refine sl_oneE _ _ _ _ ?_); first | rfl | exact (World.size_alloc _ _).symm | (simp; done)) | with_reducible refine Sl.drew' ?_ | with_reducible refine Sl.alloc' ?_ _)); done)) | skip); have HG9 := Lib.hid hg9; have HO9 := Lib.hid hown9; have KE9 : Hid (Blk w9 E 25 #[.int .i64 k0, .int .i64 v0]) := Lib.hid (Blk.grown (by (repeat (first | with_reducible exact KE.out | with_reducible exact KE8.out | with_reducible refine Blk.drew ?_ | with_reducible refine Blk.alloc ?_ _))) hg9 N1E.out); have HB9 : Hid (Below G w w9) := Lib.hid (Below.trans (by (repeat (first | with_reducible exact HBA.out | with_reducible exact HB8.out | with_reducible refine Below.drew ?_ | (with_reducible refine Below.alloc ?_ (by first | exact hs8 | exact hsa | (simp; omega)) _)))) hb9); (first | (have tok := H1B) | have H2B : Hid (w9.ownsRow G 3 1 (.slice q2 j c2) j (keyV (l.take j))) := Lib.hid ((Fr.of_grown (v' := .slice q1 j c1) hg9 (fun k hk => .inl hk)).own (by (repeat (first | with_reducible exact H2A.out | with_reducible refine World.ownsRow.alloc ?_ _ | with_reducible refine row_drew ?_))) D21.out)); (first | (have HOB8 := Lib.hid ((Fr.of_grown (v' := .slice q1 j c1) hg9 (fun k hk => .inl hk)).own HO8.out (row_row HO8.out H1B.out (by decide)))) | (have HOB8 := Lib.hid ((Fr.of_grown (v' := .slice q1 j c1) hg9 (fun k hk => .inl hk)).own (World.ownsRow.alloc HO8.out (.cells #[Value.int .i64 k0, Value.int .i64 0] 25)) (row_row HO8.out H1B.out (by decide)))) | skip); have g5 : w9.cell? ⟨E, 0, none⟩ = some (.int .i64 k0) := KE9.out.cell 0 rfl; have g6 : w9.cell? ⟨E, 1, none⟩ = some (.int .i64 v0) := KE9.out.cell 1 rfl; have hs9 : G ≤ w9.heap.size := (by have := HB9.out.size; rw [HG.out] at this; exact this); have hE9 := KE9.out.lt; clear hg9 hown9 hb9)
          | (refine step_apSl (by rfl) (.tmp 14) (.tmp 17) 26 26 (by rfl) G 3 3 (.int .i64 0) 8 Try.underlying26 Try.underlying26 info_intK rfl (.slice q2 j c2) j (keyV (l.take j)) (by rfl) ?_ _ [Value.int .i64 k0] (by rfl) ?_ (by simp [Value.oneCell']) HNX.out HNY.out ?_ ?_; (repeat (first | with_reducible exact H2A.out | with_reducible exact H2B.out | with_reducible refine World.ownsRow.alloc ?_ _ | with_reducible refine row_drew ?_)); (first | show Sl _ (.slice (some ⟨wa.heap.size, 0, none⟩) 1 1) _ | show Sl _ (.slice (some ⟨wa.heap.size + 1, 0, none⟩) 1 1) _ | show Sl _ (.slice (some ⟨w9.heap.size, 0, none⟩) 1 1) _); (repeat (first | ((with_reducible refine sl_oneE _ _ _ _ ?_); first | rfl | exact (World.size_alloc _ _).symm | (simp; done)) | with_reducible exact HSLa.out | with_reducible exact HSLb.out | with_reducible refine Sl.drew' ?_ | with_reducible refine Sl.alloc' ?_ _)); (first | exact hs9 | exact hsa | (simp; omega)); intro p8 m8 c8 w8 hown8 hg8 hb8; (first | (refine (have HRWa : Hid (Rw 2 w8 (.slice (some ⟨wa.heap.size, 0, none⟩) 1 1) [[Value.int .i64 k0, Value.int .i64 0]]) := Lib.hid (Rw.fr1 ?_ (Fr.of_grown (v' := .slice q2 j c2) hg8 (fun k hk => .inl hk)) (fun e => by have := (own_lt H2A.out _ e).1; omega)); ?_); focus ((repeat (first | ((with_reducible refine rw_oneE _ _ _ _ _ ?_); first | rfl | exact (World.size_alloc _ _).symm | (simp; done)) | with_reducible refine Rw.drew' ?_ | with_reducible refine Rw.alloc' ?_ _)); done)) | skip); (first | (refine (have HRWb : Hid (Rw 2 w8 (.slice (some ⟨wa.heap.size + 1, 0, none⟩) 1 1) [[Value.int .i64 k0, Value.int .i64 0]]) := Lib.hid (Rw.fr1 ?_ (Fr.of_grown (v' := .slice q2 j c2) hg8 (fun k hk => .inl hk)) (fun e => by have := (own_lt H2A.out _ e).1; omega)); ?_); focus ((repeat (first | ((with_reducible refine rw_oneE _ _ _ _ _ ?_); first | rfl | exact (World.size_alloc _ _).symm | (simp; done)) | with_reducible refine Rw.drew' ?_ | with_reducible refine Rw.alloc' ?_ _)); done)) | skip); have HG8 := Lib.hid hg8; have HO8 := Lib.hid hown8; have KE8 : Hid (Blk w8 E 25 #[.int .i64 k0, .int .i64 v0]) := Lib.hid (Blk.grown (by (repeat (first | with_reducible exact KE.out | with_reducible exact KE9.out | with_reducible refine Blk.drew ?_ | with_reducible refine Blk.alloc ?_ _))) hg8 N2E.out); have HB8 : Hid (Below G w w8) := Lib.hid (Below.trans (by (repeat (first | with_reducible exact HBA.out | with_reducible exact HB9.out | with_reducible refine Below.drew ?_ | (with_reducible refine Below.alloc ?_ (by first | exact hs9 | exact hsa | (simp; omega)) _)))) hb8); (first | (have tok := H2B) | have H1B : Hid (w8.ownsRow G 25 2 (.slice q1 j c1) j (aes (askE (l.take j))).flatten) := Lib.hid ((Fr.of_grown (v' := .slice q2 j c2) hg8 (fun k hk => .inl hk)).own (by (repeat (first | with_reducible exact H1A.out | with_reducible refine World.ownsRow.alloc ?_ _ | with_reducible refine row_drew ?_))) D12.out)); (first | (have HOB9 := Lib.hid ((Fr.of_grown (v' := .slice q2 j c2) hg8 (fun k hk => .inl hk)).own HO9.out (row_row HO9.out H2B.out (by decide)))) | (have HOB9 := Lib.hid ((Fr.of_grown (v' := .slice q2 j c2) hg8 (fun k hk => .inl hk)).own (World.ownsRow.alloc HO9.out (.cells #[Value.int .i64 k0] 3)) (row_row HO9.out H2B.out (by decide)))) | skip); have g5 : w8.cell? ⟨E, 0, none⟩ = some (.int .i64 k0) := KE8.out.cell 0 rfl; have g6 : w8.cell? ⟨E, 1, none⟩ = some (.int .i64 v0) := KE8.out.cell 1 rfl; have hs8 : G ≤ w8.heap.size := (by have := HB8.out.size; rw [HG.out] at this; exact this); have hE8 := KE8.out.lt; clear hg8 hown8 hb8)
          | fail))
        all_goals (
          refine by_midK (M := KeysMid l G w j p9 m9 c9 p8 m8 c8) ?_ ?_
          · (first
              | with_reducible exact key_mid HOB9.out HO8.out HB8.out ⟨rfl, S1.out⟩ ⟨rfl, S2.out⟩
              | with_reducible exact key_mid HO9.out HOB8.out HB9.out ⟨rfl, S1.out⟩ ⟨rfl, S2.out⟩)
          · intro wx hmid
            obtain ⟨g1, g2, g3, g4, g5⟩ := hmid.fin
            subst g1
            subst g2
            have HO1' := Lib.hid g3
            have HO2' := Lib.hid g4
            have HB' := Lib.hid g5
            clear g3 g4 g5 hmid
            go_wp2_with fail
            go_roundg k
            case measure => omega
            case rel => exact ⟨j + 1, p9, c9, p8, c8, rfl, rfl, by go_num, by omega, HO1'.out, HO2'.out, HB'.out⟩)
    · obtain rfl : j = n := by omega
      rw [List.take_of_length_le (by rw [HN.out]; exact Nat.le_refl _)] at ho1
      have HO1 := Lib.hid ho1
      have HB := Lib.hid hbel
      clear ho1 ho2 hbel
      go_wp2_with fail
      go_ret2
      exact ⟨q1, c1, q2, c2, rfl, by rw [HG.out]; exact HO1.out, by rw [HG.out]; exact HB.out⟩
end Go.Proofs.Ytidekgmpbcnfmaa
