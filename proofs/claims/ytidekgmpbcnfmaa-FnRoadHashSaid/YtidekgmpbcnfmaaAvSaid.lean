/- The walk of impl.avSaid. -/
import Derived.Test.YtidekgmpbcnfmaaAvSaidS
import Derived.Deep.DeepCutAuto
namespace Go.Proofs.Ytidekgmpbcnfmaa
set_option linter.unusedVariables false
open Go.RowKit Avm

theorem own_n {w : World} {B : Nat} {e : TypeId} {z : Nat} {p : Option Addr} {m c n : Nat} {xs : List Value} (h : w.ownsRow B e z (.slice p m c) n xs) : m = n := by
  rcases h.2 with ⟨e, h0⟩ | ⟨g, cap, cur, e, _⟩
  · injection e with _ e; omega
  · injection e
def SaidMid (w : World) (os : List (Option (Int × Int))) (L X j : Nat) (wx : World) : Prop :=
  ∃ (q1 : Option Addr) (c1 : Nat) (q2 : Option Addr) (c2 : Nat), Blk wx X 36 #[.int .i64 (L : Int), .slice q1 (j + 1) c1, .slice q2 (j + 1) c2] ∧
    wx.ownsRow w.heap.size 25 2 (.slice q1 (j + 1) c1) (j + 1) (aes ((os.take (j + 1)).map oget)).flatten ∧ wx.ownsRow w.heap.size 4 1 (.slice q2 (j + 1) c2) (j + 1) (bvs ((os.take (j + 1)).map Option.isSome)) ∧
    Blk wx w.heap.size 36 #[.int .i64 0, .slice none 0 0, .slice none 0 0] ∧ Below w.heap.size w wx
theorem said_mid {w wy : World} {os : List (Option (Int × Int))} {L X j : Nat} {u1 u2 : Value} {p9 p8 : Option Addr} {m9 c9 m8 c8 n9 n8 : Nat} {x9 x8 : List Value}
    (hx : Blk wy X 36 #[.int .i64 (L : Int), u1, u2]) (ho1 : wy.ownsRow w.heap.size 25 2 (.slice p9 m9 c9) n9 x9) (ho2 : wy.ownsRow w.heap.size 4 1 (.slice p8 m8 c8) n8 x8)
    (hr : Blk wy w.heap.size 36 #[.int .i64 0, .slice none 0 0, .slice none 0 0]) (hb : Below w.heap.size w wy) (hne : w.heap.size ≠ X) (hXG : w.heap.size ≤ X)
    (s1 : n9 = j + 1 ∧ (aes ((os.take (j + 1)).map oget)).flatten = x9) (s2 : n8 = j + 1 ∧ bvs ((os.take (j + 1)).map Option.isSome) = x8) :
    SaidMid w os L X j ((wy.setCell ⟨X, 1, none⟩ (.slice p9 m9 c9)).setCell ⟨X, 2, none⟩ (.slice p8 m8 c8)) ∧ SaidMid w os L X j ((wy.setCell ⟨X, 2, none⟩ (.slice p8 m8 c8)).setCell ⟨X, 1, none⟩ (.slice p9 m9 c9)) := by
  obtain ⟨e1, e2⟩ := s1
  obtain ⟨e3, e4⟩ := s2
  have l1 := own_n ho1
  have l2 := own_n ho2
  subst e1 e3 l1 l2
  rw [← e2] at ho1
  rw [← e4] at ho2
  have k1 := Fr.store wy (F := [X]) (a := ⟨X, 1, none⟩) (by simp) (.slice p9 (j + 1) c9)
  have k2 := Fr.store (wy.setCell ⟨X, 1, none⟩ (.slice p9 (j + 1) c9)) (F := [X]) (a := ⟨X, 2, none⟩) (by simp) (.slice p8 (j + 1) c8)
  have k3 := Fr.store wy (F := [X]) (a := ⟨X, 2, none⟩) (by simp) (.slice p8 (j + 1) c8)
  have k4 := Fr.store (wy.setCell ⟨X, 2, none⟩ (.slice p8 (j + 1) c8)) (F := [X]) (a := ⟨X, 1, none⟩) (by simp) (.slice p9 (j + 1) c9)
  have ka := k1.trans k2
  have kb := k3.trans k4
  have n1 : ∀ k ∈ obl (.slice p9 (j + 1) c9), k ∉ [X] := fun k hk e => by
    rw [List.mem_singleton] at e
    subst e
    exact row_blk ho1 hx (by decide) (mem_obl.1 hk)
  have n2 : ∀ k ∈ obl (.slice p8 (j + 1) c8), k ∉ [X] := fun k hk e => by
    rw [List.mem_singleton] at e
    subst e
    exact row_blk ho2 hx (by decide) (mem_obl.1 hk)
  have n3 : w.heap.size ∉ [X] := fun e => hne (List.mem_singleton.1 e)
  refine ⟨⟨p9, c9, p8, c8, (hx.set 1 _).set 2 _, ka.own ho1 n1, ka.own ho2 n2, ka.blk hr n3, hb.trans (ka.below (fun k hk => by rw [List.mem_singleton.1 hk]; exact hXG) hb.size)⟩, ⟨p9, c9, p8, c8, (hx.set 2 _).set 1 _, kb.own ho1 n1, kb.own ho2 n2, kb.blk hr n3, hb.trans (kb.below (fun k hk => by rw [List.mem_singleton.1 hk]; exact hXG) hb.size)⟩⟩
theorem by_mid {P M : World → Prop} {wx : World} (h : M wx) (h2 : ∀ wx, M wx → P wx) : P wx := h2 wx h

set_option maxRecDepth 100000 in
set_option maxHeartbeats 4000000 in
theorem avsaid_any : AvSaidC := by
  intro i t v os w h hv hn hL
  obtain ⟨a, n, cap, rfl, hl, hc, hm, hr⟩ := hv
  rw [List.length_map] at hl
  have HR := Lib.hid hr
  have HN := Lib.hid hl
  rw [hl] at hn ⊢
  obtain ⟨L, hLL⟩ : ∃ L, t.toL.length = L := ⟨_, rfl⟩
  have HT := Lib.hid h
  have hlen := fun w' h => len_any i t w' h
  rw [hLL] at hlen hL ⊢
  have HLN := Lib.hid hlen
  have hk0 := Blk.new w 36 #[.int .i64 0, .slice none 0 0, .slice none 0 0]
  have hal : Below w.heap.size w (w.alloc (.cells #[.int .i64 0, .slice none 0 0, .slice none 0 0] 36)) := (Below.refl _ _).alloc (Nat.le_refl _) _
  have hLw : IntKind.i64.wrap (L : Int) = (L : Int) := IntWalk.i64_in _ (by omega)
  have hta := HLN.out _ (h.below hal)
  have HTA := Lib.hid hta
  clear hl hc hm hr h hLL hlen hta
  go_enter Try.func30, Try.ntmps30
  go_wp2_with fail
  refine HTA.out.mono ?_
  rintro e w' ⟨rfl, rfl⟩
  have hk1 := Blk.new (w.alloc (.cells #[.int .i64 0, .slice none 0 0, .slice none 0 0] 36)) 36 #[.int .i64 (L : Int), .slice none 0 0, .slice none 0 0]
  rw [World.size_alloc] at hk1
  have hk0 := hk0.alloc (.cells #[.int .i64 (L : Int), .slice none 0 0, .slice none 0 0] 36)
  have hal := hal.alloc (by simp) (.cells #[.int .i64 (L : Int), .slice none 0 0, .slice none 0 0] 36)
  obtain ⟨X, hX⟩ : ∃ X, w.heap.size + 1 = X := ⟨_, rfl⟩
  rw [hX] at hk1
  have hXw : w.heap.size ≤ X := by omega
  have hXn : w.heap.size ≠ X := by omega
  have HK0 := Lib.hid hk0
  have HK1 := Lib.hid hk1
  have HAL := Lib.hid hal
  have HXE := Lib.hid hX
  clear hk0 hk1 hal hX HTA HT HLN
  go_wp2_with fail
  rw [HXE.out]
  go_loopg [7, 8, 9, 16] n (fun k s7 s8 s9 idx wr => SaidLoop2 os L n X w k idx wr)
  case atStart => exact ⟨0, none, 0, none, 0, rfl, by omega, HK1.out, World.ownsRow_nil _ _ _ _, World.ownsRow_nil _ _ _ _, HK0.out, HAL.out⟩
  case round =>
    clear HK0 HK1 HAL HXE
    obtain ⟨j, q1, c1, q2, c2, rfl, hjk, hx, ho1, ho2, hres, hbel⟩ := hrel
    have HX := Lib.hid hx
    have HO1 := Lib.hid ho1
    have HO2 := Lib.hid ho2
    have HRES := Lib.hid hres
    have HB := Lib.hid hbel
    have hsz := hbel.size
    have hXlt := hx.lt
    by_cases hj : j < n
    · obtain ⟨b, off, rfl, hcell⟩ := HR.out (by omega)
      have hce := hcell j (oent (os.getD j none)) (by simp [List.getD_eq_getElem?_getD, HN.out, hj])
      rw [← hbel.cell (World.block_lt_of_cell? w _ hce)] at hce
      have hsn : os.take (j + 1) = os.take j ++ [os.getD j none] := by
        rw [List.take_succ_eq_append_getElem (by rw [HN.out]; exact hj)]; simp [List.getD_eq_getElem?_getD, HN.out, hj]
      obtain ⟨o, ho⟩ : ∃ o, os.getD j none = o := ⟨_, rfl⟩
      rw [ho] at hce hsn
      obtain ⟨k0, v0, bb, hkv, hbb, hass⟩ : ∃ k0 v0 bb, oget o = (k0, v0) ∧ o.isSome = bb ∧ ∀ w', (Instr.typeAssert (oent o) 92 99 true).run Try.prog w' = .ok (.tuple #[.agg #[.int .i64 k0, .int .i64 v0], .bool bb]) w' := by
        cases o with
        | none => exact ⟨0, 0, false, rfl, rfl, asok_nil⟩
        | some e => exact ⟨e.1, e.2, true, rfl, rfl, asok_some _⟩
      have s1 : (aes ((os.take (j + 1)).map oget)).flatten = (aes ((os.take j).map oget)).flatten ++ [[Value.int .i64 k0, .int .i64 v0]].flatten := by
        rw [hsn, List.map_append, aes, List.map_append, List.flatten_append]
        simp [aes, hkv]
      have s2 : bvs ((os.take (j + 1)).map Option.isSome) = bvs ((os.take j).map Option.isSome) ++ [Value.bool bb] := by
        rw [hsn, List.map_append, bvs, List.map_append]
        simp [bvs, hbb]
      obtain ⟨OV, hOV⟩ : ∃ OV, oent o = OV := ⟨_, rfl⟩
      rw [hOV] at hce hass
      have S1 := Lib.hid s1
      have S2 := Lib.hid s2
      have i1 : (j : Int) < (n : Int) := by omega
      have i2 : (0 : Int) ≤ (j : Int) := by omega
      have hal : Below wr.heap.size wr (wr.alloc (.cells #[.int .i64 k0, .int .i64 v0] 99)) := (Below.refl _ _).alloc (Nat.le_refl _) _
      have kE := Blk.new wr 99 #[.int .i64 k0, .int .i64 v0]
      have hxa := hx.alloc (.cells #[.int .i64 k0, .int .i64 v0] 99)
      have hra := hres.alloc (.cells #[.int .i64 k0, .int .i64 v0] 99)
      have h1a := ho1.alloc (.cells #[.int .i64 k0, .int .i64 v0] 99)
      have h2a := ho2.alloc (.cells #[.int .i64 k0, .int .i64 v0] 99)
      have hba := hbel.trans (hal.mono hsz)
      obtain ⟨E, hE⟩ : ∃ E, wr.heap.size = E := ⟨_, rfl⟩
      rw [hE] at kE
      obtain ⟨wa, hwa⟩ : ∃ wa, wa = wr.alloc (.cells #[.int .i64 k0, .int .i64 v0] 99) := ⟨_, rfl⟩
      rw [← hwa] at kE hxa hra h1a h2a hba
      have HE := Lib.hid hE
      have HWA := Lib.hid hwa
      clear hcell ho hkv hbb s1 s2 hsn hOV hx ho1 ho2 hres hbel hal hE hwa hk0 HX HO1 HO2 HRES HB
      cases gk with
      | zero => omega
      | succ k =>
        have HXA := Lib.hid hxa
        have HRA := Lib.hid hra
        have H1A := Lib.hid h1a
        have H2A := Lib.hid h2a
        have HBA := Lib.hid hba
        have n1X : (Value.slice q1 j c1).ownBlock ≠ some X := row_blk h1a hxa (by decide)
        have n1R : (Value.slice q1 j c1).ownBlock ≠ some w.heap.size := row_blk h1a hra (by decide)
        have n1E : (Value.slice q1 j c1).ownBlock ≠ some E := row_blk h1a kE (by decide)
        have n2X : (Value.slice q2 j c2).ownBlock ≠ some X := row_blk h2a hxa (by decide)
        have n2R : (Value.slice q2 j c2).ownBlock ≠ some w.heap.size := row_blk h2a hra (by decide)
        have n2E : (Value.slice q2 j c2).ownBlock ≠ some E := row_blk h2a kE (by decide)
        have d12 := row_row h1a h2a (by decide)
        have d21 := row_row h2a h1a (by decide)
        have N1X := Lib.hid n1X
        have N1R := Lib.hid n1R
        have N1E := Lib.hid n1E
        have N2X := Lib.hid n2X
        have N2R := Lib.hid n2R
        have N2E := Lib.hid n2E
        have D12 := Lib.hid d12
        have D21 := Lib.hid d21
        have x1 := hxa.cell 1 rfl
        have x2 := hxa.cell 2 rfl
        have f1 := hxa.free 1
        have f2 := hxa.free 2
        have e0 := kE.cell 0 rfl
        have e1 := kE.cell 1 rfl
        have hXa := hxa.lt
        have hEa := kE.lt
        have hsa := hba.size
        have KE := Lib.hid kE
        have HMX := Lib.hid (show j + [[Value.int .i64 k0, Value.int .i64 v0]].length ≤ maxLen by simp; unfold maxLen; omega)
        have HMY := Lib.hid (show (j + [[Value.int .i64 k0, Value.int .i64 v0]].length) * 16 ≤ 140737488355328 by simp; omega)
        have HNX := Lib.hid (show j + [Value.bool bb].length ≤ maxLen by simp; unfold maxLen; omega)
        have HNY := Lib.hid (show (j + [Value.bool bb].length) * 1 ≤ 140737488355328 by simp; omega)
        clear hxa hra h1a h2a hba n1X n1R n1E n2X n2R n2E d12 d21 kE hal
        go_upto_region 6 with fail
        rw [← HWA.out, HE.out]
        clear HE HWA hce hass hXlt
        go_region_law ((first
          | (refine step_apRw (by rfl) (.tmp 26) (.tmp 29) 22 (by rfl) w.heap.size 2 25 (.agg #[.int .i64 0, .int .i64 0]) 16 Try.underlying22 info_ave rfl (by decide) (.slice q1 j c1) j (aes ((os.take j).map oget)).flatten (by rfl) ?_ _ [[Value.int .i64 k0, Value.int .i64 v0]] (by rfl) ?_ (by simp) (by simp [Value.oneCell']) HMX.out HMY.out ?_ ?_; (repeat (first | with_reducible exact H1A.out | with_reducible exact H1B.out | with_reducible refine World.ownsRow.alloc ?_ _ | with_reducible refine row_drew ?_)); (first | show Rw 2 _ (.slice (some ⟨wa.heap.size, 0, none⟩) 1 1) _ | show Rw 2 _ (.slice (some ⟨wa.heap.size + 1, 0, none⟩) 1 1) _ | show Rw 2 _ (.slice (some ⟨w8.heap.size, 0, none⟩) 1 1) _); (repeat (first | ((with_reducible refine rw_oneE _ _ _ _ _ ?_); first | rfl | exact (World.size_alloc _ _).symm | (simp; done)) | with_reducible exact HRWa.out | with_reducible exact HRWb.out | with_reducible refine Rw.drew' ?_ | with_reducible refine Rw.alloc' ?_ _)); (first | exact hs8 | exact hsa | (simp; omega)); intro p9 m9 c9 w9 hown9 hg9 hb9; (first | (refine (have HSLa : Hid (Sl w9 (.slice (some ⟨wa.heap.size, 0, none⟩) 1 1) [Value.bool bb]) := Lib.hid (Sl.fr1 ?_ (Fr.of_grown (v' := .slice q1 j c1) hg9 (fun k hk => .inl hk)) (fun e => by have := (own_lt H1A.out _ e).1; omega)); ?_); focus ((repeat (first | ((with_reducible refine sl_oneE _ _ _ _ ?_); first | rfl | exact (World.size_alloc _ _).symm | (simp; done)) | with_reducible refine Sl.drew' ?_ | with_reducible refine Sl.alloc' ?_ _)); done)) | skip); (first | (refine (have HSLb : Hid (Sl w9 (.slice (some ⟨wa.heap.size + 1, 0, none⟩) 1 1) [Value.bool bb]) := Lib.hid (Sl.fr1 ?_ (Fr.of_grown (v' := .slice q1 j c1) hg9 (fun k hk => .inl hk)) (fun e => by have := (own_lt H1A.out _ e).1; omega)); ?_); focus ((repeat (first | ((with_reducible refine sl_oneE _ _ _ _ ?_); first | rfl | exact (World.size_alloc _ _).symm | (simp; done)) | with_reducible refine Sl.drew' ?_ | with_reducible refine Sl.alloc' ?_ _)); done)) | skip); have HG9 := Lib.hid hg9; have HO9 := Lib.hid hown9; have HX9 : Hid (Blk w9 X 36 #[.int .i64 (L : Int), .slice q1 j c1, .slice q2 j c2]) := Lib.hid (Blk.grown (by (repeat (first | with_reducible exact HXA.out | with_reducible exact HX8.out | with_reducible refine Blk.drew ?_ | with_reducible refine Blk.alloc ?_ _))) hg9 N1X.out); have HR9 : Hid (Blk w9 w.heap.size 36 #[.int .i64 0, .slice none 0 0, .slice none 0 0]) := Lib.hid (Blk.grown (by (repeat (first | with_reducible exact HRA.out | with_reducible exact HR8.out | with_reducible refine Blk.drew ?_ | with_reducible refine Blk.alloc ?_ _))) hg9 N1R.out); have KE9 : Hid (Blk w9 E 99 #[.int .i64 k0, .int .i64 v0]) := Lib.hid (Blk.grown (by (repeat (first | with_reducible exact KE.out | with_reducible exact KE8.out | with_reducible refine Blk.drew ?_ | with_reducible refine Blk.alloc ?_ _))) hg9 N1E.out); have HB9 : Hid (Below w.heap.size w w9) := Lib.hid (Below.trans (by (repeat (first | with_reducible exact HBA.out | with_reducible exact HB8.out | with_reducible refine Below.drew ?_ | (with_reducible refine Below.alloc ?_ (by first | exact hs8 | exact hsa | (simp; omega)) _)))) hb9); (first | (have tok := H1B) | have H2B : Hid (w9.ownsRow w.heap.size 4 1 (.slice q2 j c2) j (bvs ((os.take j).map Option.isSome))) := Lib.hid ((Fr.of_grown (v' := .slice q1 j c1) hg9 (fun k hk => .inl hk)).own (by (repeat (first | with_reducible exact H2A.out | with_reducible refine World.ownsRow.alloc ?_ _ | with_reducible refine row_drew ?_))) D21.out)); (first | (have HOB8 := Lib.hid ((Fr.of_grown (v' := .slice q1 j c1) hg9 (fun k hk => .inl hk)).own HO8.out (row_row HO8.out H1B.out (by decide)))) | (have HOB8 := Lib.hid ((Fr.of_grown (v' := .slice q1 j c1) hg9 (fun k hk => .inl hk)).own (World.ownsRow.alloc HO8.out (.cells #[Value.int .i64 k0, Value.int .i64 v0] 25)) (row_row HO8.out H1B.out (by decide)))) | skip); have g1 : w9.cell? ⟨X, 1, none⟩ = some (.slice q1 j c1) := HX9.out.cell 1 rfl; have g2 : w9.cell? ⟨X, 2, none⟩ = some (.slice q2 j c2) := HX9.out.cell 2 rfl; have g3 := HX9.out.free 1; have g4 := HX9.out.free 2; have g5 : w9.cell? ⟨E, 0, none⟩ = some (.int .i64 k0) := KE9.out.cell 0 rfl; have g6 : w9.cell? ⟨E, 1, none⟩ = some (.int .i64 v0) := KE9.out.cell 1 rfl; have hs9 := HB9.out.size; have hX9 := HX9.out.lt; have hE9 := KE9.out.lt; clear hg9 hown9 hb9)
          | (refine step_apSl (by rfl) (.tmp 32) (.tmp 34) 34 34 (by rfl) w.heap.size 4 4 (.bool false) 1 Try.underlying34 Try.underlying34 info_boo rfl (.slice q2 j c2) j (bvs ((os.take j).map Option.isSome)) (by rfl) ?_ _ [Value.bool bb] (by rfl) ?_ (by simp [Value.oneCell']) HNX.out HNY.out ?_ ?_; (repeat (first | with_reducible exact H2A.out | with_reducible exact H2B.out | with_reducible refine World.ownsRow.alloc ?_ _ | with_reducible refine row_drew ?_)); (first | show Sl _ (.slice (some ⟨wa.heap.size, 0, none⟩) 1 1) _ | show Sl _ (.slice (some ⟨wa.heap.size + 1, 0, none⟩) 1 1) _ | show Sl _ (.slice (some ⟨w9.heap.size, 0, none⟩) 1 1) _); (repeat (first | ((with_reducible refine sl_oneE _ _ _ _ ?_); first | rfl | exact (World.size_alloc _ _).symm | (simp; done)) | with_reducible exact HSLa.out | with_reducible exact HSLb.out | with_reducible refine Sl.drew' ?_ | with_reducible refine Sl.alloc' ?_ _)); (first | exact hs9 | exact hsa | (simp; omega)); intro p8 m8 c8 w8 hown8 hg8 hb8; (first | (refine (have HRWa : Hid (Rw 2 w8 (.slice (some ⟨wa.heap.size, 0, none⟩) 1 1) [[Value.int .i64 k0, Value.int .i64 v0]]) := Lib.hid (Rw.fr1 ?_ (Fr.of_grown (v' := .slice q2 j c2) hg8 (fun k hk => .inl hk)) (fun e => by have := (own_lt H2A.out _ e).1; omega)); ?_); focus ((repeat (first | ((with_reducible refine rw_oneE _ _ _ _ _ ?_); first | rfl | exact (World.size_alloc _ _).symm | (simp; done)) | with_reducible refine Rw.drew' ?_ | with_reducible refine Rw.alloc' ?_ _)); done)) | skip); (first | (refine (have HRWb : Hid (Rw 2 w8 (.slice (some ⟨wa.heap.size + 1, 0, none⟩) 1 1) [[Value.int .i64 k0, Value.int .i64 v0]]) := Lib.hid (Rw.fr1 ?_ (Fr.of_grown (v' := .slice q2 j c2) hg8 (fun k hk => .inl hk)) (fun e => by have := (own_lt H2A.out _ e).1; omega)); ?_); focus ((repeat (first | ((with_reducible refine rw_oneE _ _ _ _ _ ?_); first | rfl | exact (World.size_alloc _ _).symm | (simp; done)) | with_reducible refine Rw.drew' ?_ | with_reducible refine Rw.alloc' ?_ _)); done)) | skip); have HG8 := Lib.hid hg8; have HO8 := Lib.hid hown8; have HX8 : Hid (Blk w8 X 36 #[.int .i64 (L : Int), .slice q1 j c1, .slice q2 j c2]) := Lib.hid (Blk.grown (by (repeat (first | with_reducible exact HXA.out | with_reducible exact HX9.out | with_reducible refine Blk.drew ?_ | with_reducible refine Blk.alloc ?_ _))) hg8 N2X.out); have HR8 : Hid (Blk w8 w.heap.size 36 #[.int .i64 0, .slice none 0 0, .slice none 0 0]) := Lib.hid (Blk.grown (by (repeat (first | with_reducible exact HRA.out | with_reducible exact HR9.out | with_reducible refine Blk.drew ?_ | with_reducible refine Blk.alloc ?_ _))) hg8 N2R.out); have KE8 : Hid (Blk w8 E 99 #[.int .i64 k0, .int .i64 v0]) := Lib.hid (Blk.grown (by (repeat (first | with_reducible exact KE.out | with_reducible exact KE9.out | with_reducible refine Blk.drew ?_ | with_reducible refine Blk.alloc ?_ _))) hg8 N2E.out); have HB8 : Hid (Below w.heap.size w w8) := Lib.hid (Below.trans (by (repeat (first | with_reducible exact HBA.out | with_reducible exact HB9.out | with_reducible refine Below.drew ?_ | (with_reducible refine Below.alloc ?_ (by first | exact hs9 | exact hsa | (simp; omega)) _)))) hb8); (first | (have tok := H2B) | have H1B : Hid (w8.ownsRow w.heap.size 25 2 (.slice q1 j c1) j (aes ((os.take j).map oget)).flatten) := Lib.hid ((Fr.of_grown (v' := .slice q2 j c2) hg8 (fun k hk => .inl hk)).own (by (repeat (first | with_reducible exact H1A.out | with_reducible refine World.ownsRow.alloc ?_ _ | with_reducible refine row_drew ?_))) D12.out)); (first | (have HOB9 := Lib.hid ((Fr.of_grown (v' := .slice q2 j c2) hg8 (fun k hk => .inl hk)).own HO9.out (row_row HO9.out H2B.out (by decide)))) | (have HOB9 := Lib.hid ((Fr.of_grown (v' := .slice q2 j c2) hg8 (fun k hk => .inl hk)).own (World.ownsRow.alloc HO9.out (.cells #[Value.bool bb] 4)) (row_row HO9.out H2B.out (by decide)))) | skip); have g1 : w8.cell? ⟨X, 1, none⟩ = some (.slice q1 j c1) := HX8.out.cell 1 rfl; have g2 : w8.cell? ⟨X, 2, none⟩ = some (.slice q2 j c2) := HX8.out.cell 2 rfl; have g3 := HX8.out.free 1; have g4 := HX8.out.free 2; have g5 : w8.cell? ⟨E, 0, none⟩ = some (.int .i64 k0) := KE8.out.cell 0 rfl; have g6 : w8.cell? ⟨E, 1, none⟩ = some (.int .i64 v0) := KE8.out.cell 1 rfl; have hs8 := HB8.out.size; have hX8 := HX8.out.lt; have hE8 := KE8.out.lt; clear hg8 hown8 hb8)
          | fail))
        all_goals (
          refine by_mid (M := SaidMid w os L X j) ?_ ?_
          · (first
              | with_reducible exact (said_mid HX8.out HOB9.out HO8.out HR8.out HB8.out hXn hXw ⟨rfl, S1.out⟩ ⟨rfl, S2.out⟩).1
              | with_reducible exact (said_mid HX8.out HOB9.out HO8.out HR8.out HB8.out hXn hXw ⟨rfl, S1.out⟩ ⟨rfl, S2.out⟩).2
              | with_reducible exact (said_mid HX9.out HO9.out HOB8.out HR9.out HB9.out hXn hXw ⟨rfl, S1.out⟩ ⟨rfl, S2.out⟩).1
              | with_reducible exact (said_mid HX9.out HO9.out HOB8.out HR9.out HB9.out hXn hXw ⟨rfl, S1.out⟩ ⟨rfl, S2.out⟩).2)
          · rintro wx ⟨q1', c1', q2', c2', hx', ho1', ho2', hr', hb'⟩
            have HX' := Lib.hid hx'
            have HO1' := Lib.hid ho1'
            have HO2' := Lib.hid ho2'
            have HR' := Lib.hid hr'
            have HB' := Lib.hid hb'
            clear hx' ho1' ho2' hr' hb' g1 g2 g3 g4 g5 g6 hX8 hE8 hX9 hE9 hs8 hs9
            go_wp2_with fail
            go_roundg k
            case measure => omega
            case rel => exact ⟨j + 1, q1', c1', q2', c2', by go_num, by omega, HX'.out, HO1'.out, HO2'.out, HR'.out, HB'.out⟩)
    · obtain rfl : j = n := by omega
      rw [List.take_of_length_le (by rw [HN.out]; exact Nat.le_refl _)] at ho1 ho2
      have HO1 := Lib.hid ho1
      have HO2 := Lib.hid ho2
      have x0 := hx.cell 0 rfl
      have x1 := hx.cell 1 rfl
      have x2 := hx.cell 2 rfl
      have r0 := hres.cell 0 rfl
      have r1 := hres.cell 1 rfl
      have r2 := hres.cell 2 rfl
      have f0 := hres.free 0
      have f1 := hres.free 1
      have f2 := hres.free 2
      clear ho1 ho2 hx hres hbel hk0 hal HX
      go_wp2_with fail
      refine bodyPost_ret (v := .agg #[.int .i64 (L : Int), .slice q1 j c1, .slice q2 j c2]) (by simp [results, Try.results30, go_sem, *]) rfl ?_
      have k1 := Fr.store wr (F := [w.heap.size]) (a := ⟨w.heap.size, 0, none⟩) (by simp) (.int .i64 (L : Int))
      have k2 := Fr.store (wr.setCell ⟨w.heap.size, 0, none⟩ (.int .i64 (L : Int))) (F := [w.heap.size]) (a := ⟨w.heap.size, 1, none⟩) (by simp) (.slice q1 j c1)
      have k3 := Fr.store ((wr.setCell ⟨w.heap.size, 0, none⟩ (.int .i64 (L : Int))).setCell ⟨w.heap.size, 1, none⟩ (.slice q1 j c1)) (F := [w.heap.size]) (a := ⟨w.heap.size, 2, none⟩) (by simp) (.slice q2 j c2)
      have ka := (k1.trans k2).trans k3
      exact ⟨q1, c1, q2, c2, rfl, ka.own HO1.out (fun k hk e => by
        rw [List.mem_singleton] at e
        subst e
        exact row_blk HO1.out HRES.out (by decide) (mem_obl.1 hk)), ka.own HO2.out (fun k hk e => by
        rw [List.mem_singleton] at e
        subst e
        exact row_blk HO2.out HRES.out (by decide) (mem_obl.1 hk)), HB.out.trans (ka.below (fun k hk => by rw [List.mem_singleton.1 hk]; exact Nat.le_refl _) hsz)⟩
end Go.Proofs.Ytidekgmpbcnfmaa
