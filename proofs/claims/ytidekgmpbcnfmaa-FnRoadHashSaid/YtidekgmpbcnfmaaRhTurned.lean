/- The walks of spec.BAPut of a number that is not there, and of laws.roadTurned at a bound of 65,536. -/
import Derived.Test.YtidekgmpbcnfmaaBaSets
import Derived.Test.YtidekgmpbcnfmaaFr
import Derived.Test.YtidekgmpbcnfmaaAvMath
namespace Go.Proofs.Ytidekgmpbcnfmaa
set_option linter.unusedVariables false
open Go.RowKit Bam

set_option maxHeartbeats 1000000 in
theorem putnew_any (v : Value) (S : List Nat) (k : Nat) (w : World) (hv : Us w v S) (hn : S.length ≤ 100000) (hno : sHas S k = false) :
    Calls Try.prog 17 #[v, .int .u64 (k : Int)] w fun e w' => ∃ v', e = .returned v' ∧ Us w' v' (sPut S k) ∧ (∀ b ∈ obl v', w.heap.size ≤ b) ∧ Below w.heap.size w w' := by
  have hat := fun w' h => at_any v S k w' h (by omega)
  have hhas := fun w' h => has_any v S k w' h (by omega)
  unfold sPut
  have HV := Lib.hid hv
  have HA := Lib.hid hat
  have HH := Lib.hid hhas
  have hle := sAt_le S k
  generalize sAt S k = m at *
  have hcs := hv.cases
  clear hv hat hhas
  cases hb : sHas S k with
  | true => rw [hb] at hno; cases hno
  | false =>
    rw [hb] at HH
    rw [if_neg (by simp)]
    clear hb hno
    rcases hcs with ⟨rfl, rfl⟩ | ⟨g, cap, rfl, hg, hc1, hc2, _⟩
    · obtain rfl : m = 0 := by simpa using hle
      go_enter Try.func17, Try.ntmps17
      go_wp2_with fail
      refine (HH.out _ HV.out).mono ?_
      rintro e w' ⟨rfl, rfl⟩
      go_wp2_with fail
      refine (HA.out _ HV.out).mono ?_
      rintro e w' ⟨rfl, rfl⟩
      go_wp2_with (at_builtin; refine wpList_appendSl rfl _ _ 40 40 rfl w.heap.size 42 42 (.int .u64 0) 8 Try.underlying40 Try.underlying40 info_u64 rfl _ 0 [] rfl (own_empty w _ _ (Nat.le_refl _)) _ [] rfl (Sl.nil _) (fun _ h => by simp at h) (by simp) (by simp) (by simp) ?_; intro p1 m1 cap1 w1 hown1 hg1 hb1)
      have OW := Lib.hid hown1
      have HB1 := Lib.hid (((Below.refl w.heap.size w).alloc (Nat.le_refl _) (.cells #[] 42)).trans hb1)
      clear hown1 hg1 hb1
      go_region_law
        (first
          | (refine step_apSl (by rfl) (.tmp 19) (.tmp 21) 40 40 (by rfl) w.heap.size 42 42 (.int .u64 0) 8 Try.underlying40 Try.underlying40 info_u64 rfl (.slice p1 m1 cap1) (0 + ([] : List Value).length) ([] ++ ([] : List Value)) (by go_simp) ?_ (.slice (some ⟨w1.heap.size, 0, none⟩) 1 1) [.int .u64 (k : Int)] (by go_simp) ?_ ?_ ?_ ?_ ?_ ?_
             focus (first | exact OW.out.alloc _ | exact row_drew (OW.out.alloc _) | exact row_drew (row_drew (OW.out.alloc _)); done)
             focus (first | exact sl_new _ _ _ | exact sl_newD _ _ _ | exact (sl_newD _ _ _).later ((Below.refl _ _).drew); done)
             focus (exact fun u hu => by rw [List.mem_singleton.1 hu]; rfl; done)
             focus ((try unfold maxLen); simp only [List.length_cons, List.length_nil]; omega; done)
             focus (simp only [List.length_cons, List.length_nil]; omega; done)
             focus (refine Nat.le_trans HB1.out.size ?_; simp; done)
             intro p9 m9 c9 w9 hown9 hg9 hb9
             have O9 := Lib.hid hown9
             have B9 : Hid (Below w.heap.size w w9) := Lib.hid (HB1.out.trans (Below.trans (by (repeat (first | with_reducible exact Below.refl _ _ | with_reducible refine Below.drew ?_ | with_reducible exact (Below.refl _ _).alloc HB1.out.size _))) hb9))
             clear hown9 hg9 hb9)
          | (refine step_apSl (by rfl) (.tmp 22) (.tmp 25) 40 40 (by rfl) w.heap.size 42 42 (.int .u64 0) 8 Try.underlying40 Try.underlying40 info_u64 rfl (.slice p9 m9 c9) (0 + ([] : List Value).length + 1) ([] ++ ([] : List Value) ++ [.int .u64 (k : Int)]) (by go_simp) ?_ (.slice none 0 0) [] (by go_simp) ?_ ?_ ?_ ?_ ?_ ?_
             focus (first | exact O9.out | exact row_drew O9.out; done)
             focus (first | exact Sl.nil _ | exact Sl.nil _; done)
             focus (exact fun u hu => by simp at hu; done)
             focus ((try unfold maxLen); simp only [List.length_nil]; omega; done)
             focus (simp only [List.length_nil]; omega; done)
             focus (exact Nat.le_trans B9.out.size (by simp); done)
             intro p8 m8 c8 w8 hown8 hg8 hb8
             have O8 := Lib.hid hown8
             have B8 : Hid (Below w.heap.size w w8) := Lib.hid (B9.out.trans (Below.trans (by (repeat (first | with_reducible exact Below.refl _ _ | with_reducible refine Below.drew ?_))) hb8))
             clear hown8 hg8 hb8)
          | fail)
      all_goals
        go_wp2_with fail
        go_ret
        exact ⟨.slice p8 m8 c8, rfl, Us.of (S := [k]) (O8.out), fun b hb => (own_lt O8.out b hb).2, B8.out⟩
    · obtain ⟨n, hN⟩ : ∃ n, n = S.length := ⟨_, rfl⟩
      have HN := Lib.hid hN
      rw [← hN] at hle hc1 hn HH HA HV ⊢
      clear hN
      have hmc : m ≤ cap := by omega
      have hmc2 : (m : Int) ≤ (cap : Int) := by omega
      go_enter Try.func17, Try.ntmps17
      go_wp2_with fail
      refine (HH.out _ HV.out).mono ?_
      rintro e w' ⟨rfl, rfl⟩
      go_wp2_with fail
      refine (HA.out _ HV.out).mono ?_
      rintro e w' ⟨rfl, rfl⟩
      have hsl1 := HV.out.part (a := some ⟨g, 0, none⟩) (n := m) (lo := 0) (hi := m) (cap' := cap) (Nat.zero_le _) (by rw [← HN.out]; exact hle) (by omega) (fun g' cap' e _ => by injection e) hmc hc2
      have hlm : (u64s (S.take m)).length = m := by rw [u64s_len, List.length_take, ← HN.out]; omega
      have hlm2 : (S.drop 0).take (m - 0) = S.take m := by rw [List.drop_zero, Nat.sub_zero]
      rw [hlm2] at hsl1
      have HL1 := Lib.hid hsl1
      have HM := Lib.hid hlm
      have hnS : S.length = n := HN.out.symm
      have HNS := Lib.hid hnS
      clear hsl1 hlm hlm2 hnS
      go_wp2_with (at_builtin; refine wpList_appendSl rfl _ _ 40 40 rfl w.heap.size 42 42 (.int .u64 0) 8 Try.underlying40 Try.underlying40 info_u64 rfl _ 0 [] rfl (own_empty w _ _ (Nat.le_refl _)) _ (u64s (S.take m)) rfl (HL1.out.later ((Below.refl _ _).alloc (Nat.le_refl _) _)) (u64s_one _) (by rw [HM.out]; unfold maxLen; omega) (by rw [HM.out]; omega) (by simp) ?_; intro p1 m1 cap1 w1 hown1 hg1 hb1)
      have OW := Lib.hid hown1
      have HB1 := Lib.hid (((Below.refl w.heap.size w).alloc (Nat.le_refl _) (.cells #[] 42)).trans hb1)
      clear hown1 hg1 hb1
      obtain ⟨a2, hif⟩ : ∃ a2, (if cap = m then some (⟨g, 0, none⟩ : Addr) else some ⟨g, m, none⟩) = a2 := ⟨_, rfl⟩
      have hsl2 := HV.out.part (a := a2) (n := n - m) (lo := m) (hi := n) (cap' := cap - m) hle (by rw [HNS.out]; exact Nat.le_refl _) rfl (fun g' cap' e h => by injection e with e1 e2 e3; injection e1 with e1; injection e1 with e1; rw [← hif, if_neg (by omega), e1]) (by omega) (by omega)
      have hl2 : (S.drop m).take (n - m) = S.drop m := List.take_of_length_le (by rw [List.length_drop, HNS.out]; exact Nat.le_refl _)
      rw [hl2] at hsl2
      have TL : Hid (∀ w', Below w.heap.size w w' → Sl w' (.slice a2 (n - m) (cap - m)) (u64s (S.drop m))) := Lib.hid (fun w' h => hsl2.later h)
      have hm0 : (0 : Int) ≤ (m : Int) := by omega
      have hmn : (m : Int) ≤ (n : Int) := by omega
      have hcm : (n : Int) ≤ (cap : Int) := by omega
      clear hsl2 hl2
      go_region_law
        (first
          | (refine step_apSl (by rfl) (.tmp 19) (.tmp 21) 40 40 (by rfl) w.heap.size 42 42 (.int .u64 0) 8 Try.underlying40 Try.underlying40 info_u64 rfl (.slice p1 m1 cap1) (0 + (u64s (S.take m)).length) ([] ++ u64s (S.take m)) (by go_simp) ?_ (.slice (some ⟨w1.heap.size, 0, none⟩) 1 1) [.int .u64 (k : Int)] (by go_simp) ?_ ?_ ?_ ?_ ?_ ?_
             focus (first | exact OW.out.alloc _ | exact row_drew (OW.out.alloc _) | exact row_drew (row_drew (OW.out.alloc _)); done)
             focus (first | exact sl_new _ _ _ | exact sl_newD _ _ _ | exact (sl_newD _ _ _).later ((Below.refl _ _).drew); done)
             focus (exact fun u hu => by rw [List.mem_singleton.1 hu]; rfl; done)
             focus ((try unfold maxLen); rw [HM.out]; simp only [List.length_cons, List.length_nil]; omega; done)
             focus (rw [HM.out]; simp only [List.length_cons, List.length_nil]; omega; done)
             focus (refine Nat.le_trans HB1.out.size ?_; simp; done)
             intro p9 m9 c9 w9 hown9 hg9 hb9
             have O9 := Lib.hid hown9
             have B9 : Hid (Below w.heap.size w w9) := Lib.hid (HB1.out.trans (Below.trans (by (repeat (first | with_reducible exact Below.refl _ _ | with_reducible refine Below.drew ?_ | with_reducible exact (Below.refl _ _).alloc HB1.out.size _))) hb9))
             clear hown9 hg9 hb9)
          | (refine step_apSl (by rfl) (.tmp 22) (.tmp 25) 40 40 (by rfl) w.heap.size 42 42 (.int .u64 0) 8 Try.underlying40 Try.underlying40 info_u64 rfl (.slice p9 m9 c9) (0 + (u64s (S.take m)).length + 1) ([] ++ u64s (S.take m) ++ [.int .u64 (k : Int)]) (by go_simp) ?_ (.slice a2 (n - m) (cap - m)) (u64s (S.drop m)) (by go_simp) ?_ ?_ ?_ ?_ ?_ ?_
             focus (first | exact O9.out | exact row_drew O9.out; done)
             focus (first | exact TL.out _ B9.out | exact TL.out _ B9.out.drew; done)
             focus (exact u64s_one _; done)
             focus ((try unfold maxLen); rw [HM.out, u64s_len, List.length_drop, HNS.out]; omega; done)
             focus (rw [HM.out, u64s_len, List.length_drop, HNS.out]; omega; done)
             focus (exact Nat.le_trans B9.out.size (by simp); done)
             intro p8 m8 c8 w8 hown8 hg8 hb8
             have O8 := Lib.hid hown8
             have B8 : Hid (Below w.heap.size w w8) := Lib.hid (B9.out.trans (Below.trans (by (repeat (first | with_reducible exact Below.refl _ _ | with_reducible refine Below.drew ?_))) hb8))
             clear hown8 hg8 hb8)
          | fail)
      all_goals
        go_wp2_with fail
        go_ret
        have h8 := O8.out
        have e8 : [] ++ u64s (S.take m) ++ [.int .u64 (k : Int)] ++ u64s (S.drop m) = u64s (S.take m ++ k :: S.drop m) := by simp [u64s]
        rw [e8] at h8
        exact ⟨.slice p8 m8 c8, rfl, Us.of h8, fun b hb => (own_lt h8 b hb).2, B8.out⟩
end Go.Proofs.Ytidekgmpbcnfmaa
namespace Go.Proofs.Ytidekgmpbcnfmaa
set_option linter.unusedVariables false
open Go.RowKit Bam

def u16t (l : List Nat) : List Value := l.map fun (x : Nat) => Value.int .u16 (x : Int)
theorem u16t_len (l : List Nat) : (u16t l).length = l.length := by simp [u16t]
theorem u16t_at (l : List Nat) (i : Nat) (h : i < l.length) : (u16t l)[i]? = some (.int .u16 ((l.getD i 0 : Nat) : Int)) := by
  simp [u16t, List.getElem?_eq_getElem h]
theorem nats16t_of {w : World} {v : Value} (h : IsInts .u16 w v) : ∃ ns : List Nat, Sl w v (u16t ns) ∧ ∀ x ∈ ns, x < 65536 := by
  obtain ⟨xs, hs, hb⟩ := h
  have hx : ∀ x ∈ xs, 0 ≤ x ∧ x < 65536 := fun x hx => by
    have := hb x hx
    simp [Lit.wf, IntKind.min, IntKind.max, IntKind.signed, IntKind.bits] at this
    omega
  refine ⟨xs.map Int.toNat, ?_, fun x hx2 => ?_⟩
  · have e : u16t (xs.map Int.toNat) = xs.map (Value.int .u16) := by
      unfold u16t
      rw [List.map_map]
      refine List.map_congr_left fun x hm => ?_
      have := hx x hm
      simp only [Function.comp]
      congr 1
      omega
    rw [e]; exact hs
  · obtain ⟨y, hy, rfl⟩ := List.mem_map.1 hx2
    have := hx y hy
    omega

/-- what is out, and what was seen -/
def TuRel (n most B : Nat) (w : World) (k : Nat) (so se idx : Value) (wr : World) : Prop :=
  ∃ (i c : Nat) (q : Option Addr) (X S : List Nat), idx = .int .i64 (i : Int) ∧ i + k = n ∧ so = .slice q X.length c ∧ wr.ownsRow B 42 1 (.slice q X.length c) X.length (u64s X) ∧ Us wr se S ∧ Asc S ∧ (∀ x, x ∈ S ↔ x ∈ X) ∧ (∀ b ∈ obl se, b ∉ obl so) ∧ X.Nodup ∧ X.length ≤ most ∧ (∀ x ∈ X, x < 65536) ∧ S.length ≤ X.length ∧ Below B w wr
def TuPost (most : Nat) (w : World) (e : Ending) (w' : World) : Prop :=
  ∃ (q : Option Addr) (c : Nat) (X : List Nat), e = .returned (.slice q X.length c) ∧ w'.ownsRow w.heap.size 42 1 (.slice q X.length c) X.length (u64s X) ∧ X.Nodup ∧ X.length ≤ most ∧ (∀ x ∈ X, x < 65536) ∧ Below w.heap.size w w'
theorem sPut_len2 (S : List Nat) (k : Nat) : (sPut S k).length ≤ S.length + 1 := by
  unfold sPut
  split
  · omega
  · rw [List.length_append, List.length_cons, List.length_take, List.length_drop]; omega

set_option maxRecDepth 100000 in
set_option maxHeartbeats 2000000 in
theorem turned_any (v : Value) (xs : List Nat) (most : Nat) (w : World) (hv : Sl w v (u16t xs)) (hb : ∀ x ∈ xs, x < 65536) (hm : most ≤ 100) (hn : xs.length ≤ 2147483647) :
    Calls Try.prog 11 #[v, .int .u64 65536, .int .i64 (most : Int)] w fun e w' => TuPost most w e w' := by
  obtain ⟨a, n, c, rfl, hl, hc, hcm, hr⟩ := hv
  rw [u16t_len] at hl
  have HL := Lib.hid hl
  have HB := Lib.hid hb
  have HR := Lib.hid hr
  obtain ⟨B, hB⟩ : ∃ B, w.heap.size = B := ⟨_, rfl⟩
  have HBB := Lib.hid hB
  have hself : B ≤ w.heap.size := by omega
  have hn9 : n ≤ 2147483647 := by omega
  clear hl hb hr hc hcm hn hB
  go_enter Try.func11, Try.ntmps11
  go_wp2_with fail
  go_loopg [7, 8, 9, 10] n (fun k so se idx s10 wr => TuRel n most B w k so se idx wr)
  case atStart => exact ⟨0, 0, none, [], [], rfl, by omega, rfl, World.ownsRow_nil _ _ _ _, Us.nil _, Asc.nil, fun x => Iff.rfl, fun b h => by simp [obl, Value.ownBlock] at h, List.nodup_nil, by simp, by simp, by simp, Below.refl _ _⟩
  case round =>
    obtain ⟨i, cq, q, X, S, rfl, hik, rfl, hown, hus, hasc, hmem, hobl, hnd, hxl, hxb, hsi, hbel⟩ := hrel
    obtain ⟨sb, sc, rfl, -⟩ := hus.shape
    obtain ⟨m, hm0⟩ : ∃ m, X.length = m := ⟨_, rfl⟩
    obtain ⟨sl, hs0⟩ : ∃ s, S.length = s := ⟨_, rfl⟩
    rw [hm0] at hown hobl hxl hsi ⊢
    rw [hs0] at hus hobl hsi ⊢
    have HM := Lib.hid hm0
    have HS := Lib.hid hs0
    have HO := Lib.hid hown
    have HU := Lib.hid hus
    have HA := Lib.hid hasc
    have HME := Lib.hid hmem
    have HOB := Lib.hid hobl
    have HND := Lib.hid hnd
    have HXB := Lib.hid hxb
    have HBE := Lib.hid hbel
    clear hown hus hasc hmem hobl hnd hxb hm0 hs0
    by_cases hi : i < n
    · have d1 : decide ((i : Int) < (n : Int)) = true := by rw [decide_eq_true_iff]; omega
      by_cases hmm : m < most
      · have d2 : decide ((m : Int) < (most : Int)) = true := by rw [decide_eq_true_iff]; omega
        obtain ⟨b, off, rfl, hcell⟩ := HR.out (by omega)
        have hci := hcell i _ (u16t_at xs i (by rw [HL.out]; exact hi))
        have hX16 : xs.getD i 0 < 65536 := HB.out _ (by
          rw [List.getD_eq_getElem?_getD, List.getElem?_eq_getElem (by rw [HL.out]; exact hi)]; exact List.getElem_mem _)
        obtain ⟨K, hK⟩ : ∃ K, xs.getD i 0 = K := ⟨_, rfl⟩
        rw [hK] at hci hX16
        have hlt := World.block_lt_of_cell? w _ hci
        have hlt' : b < B := by rw [← HBB.out]; exact hlt
        rw [← hbel.cell (p := ⟨b, off + i, none⟩) hlt'] at hci
        have hkm : (K : Int) % 65536 = (K : Int) := by omega
        have hkt : (K : Int).tmod 65536 = (K : Int) := by rw [Int.tmod_eq_emod_of_nonneg (by omega)]; omega
        have hxw : IntKind.u64.wrap (K : Int) = (K : Int) := by simp only [IntKind.wrap, IntKind.signed, IntKind.bits]; simp; omega
        have HHAS := Lib.hid (has_any (.slice sb sl sc) S K wr HU.out (by have := HS.out; omega))
        have i1 : (i : Int) < (n : Int) := by omega
        have i2 : (0 : Int) ≤ (i : Int) := by omega
        clear hcell hK hbel hlt
        cases gk with
        | zero => omega
        | succ k =>
          cases hsk : sHas S K with
          | true =>
            rw [hsk] at HHAS
            clear hsk
            go_wp2_with fail
            refine HHAS.out.mono ?_
            rintro e w' ⟨rfl, rfl⟩
            go_wp2_with fail
            go_roundg k
            case measure => omega
            case rel => exact ⟨i + 1, cq, q, X, S, by go_num, by omega, by rw [HM.out], by rw [HM.out]; exact HO.out, HU.out, HA.out, HME.out, HOB.out, HND.out, by have := HM.out; omega, HXB.out, by have := HS.out; have := HM.out; omega, HBE.out⟩
          | false =>
            rw [hsk] at HHAS
            have HSK := Lib.hid hsk
            clear hsk
            have hBs : B ≤ wr.heap.size := by have := HBE.out.size; omega
            go_wp2_with fail
            refine HHAS.out.mono ?_
            rintro e w' ⟨rfl, rfl⟩
            go_wp2_with (at_builtin; refine wpList_append1 rfl _ _ 40 rfl B 42 (.int .u64 0) 8 Try.underlying40 info_u64 rfl (.slice q m cq) m (u64s X) rfl HO.out (.int .u64 (K : Int)) rfl rfl (by unfold maxLen; omega) (by omega) hBs ?_; intro g5 k5 w7 hown5 hg5 hb5; have HO5 := Lib.hid hown5; have HG5 := Lib.hid hg5; have HB5 := Lib.hid hb5; clear hown5 hg5 hb5)
            have hu7 : Us w7 (.slice sb sl sc) S := (Fr.of_grown (v' := .slice q m cq) HG5.out (fun k h => .inl h)).own HU.out HOB.out
            have hslen := HS.out
            have HPUT := Lib.hid (putnew_any (.slice sb sl sc) S K w7 hu7 (by omega) HSK.out)
            clear hu7
            refine HPUT.out.mono ?_
            rintro e w8 ⟨v8, rfl, hu8, ho8, hb8⟩
            obtain ⟨pb, pc, rfl, -⟩ := hu8.shape
            have HO8 := Lib.hid (own_below HO5.out hb8)
            have HB8 := Lib.hid ((HBE.out.trans HB5.out).trans (hb8.mono (Nat.le_trans hBs HB5.out.size)))
            have HU8 := Lib.hid hu8
            have HOB8 : Hid (∀ b ∈ obl (.slice pb (sPut S K).length pc), b ∉ obl (.slice (some ⟨g5, 0, none⟩) (m + 1) k5)) := Lib.hid (fun b hb hb2 => by
              have h1 := ho8 b hb
              have h2 := (own_lt HO5.out b hb2).1
              omega)
            have HX1 : Hid (∀ x ∈ X ++ [K], x < 65536) := Lib.hid (fun x hx => by
              rcases List.mem_append.1 hx with h | h
              · exact HXB.out x h
              · rw [List.mem_singleton.1 h]; exact hX16)
            have hKn : K ∉ X := fun h => by
              have := (sHas_iff HA.out K).2 ((HME.out K).2 h)
              rw [HSK.out] at this
              cases this
            have HKN := Lib.hid hKn
            obtain ⟨pl, hpl⟩ : ∃ pl, (sPut S K).length = pl := ⟨_, rfl⟩
            rw [hpl] at HOB8 ⊢
            have HPL := Lib.hid hpl
            clear hu8 ho8 hb8 hKn hpl
            go_wp2_with fail
            go_roundg k
            case measure => omega
            case rel =>
              have hml : (X ++ [K]).length = m + 1 := by rw [List.length_append, HM.out]; rfl
              refine ⟨i + 1, k5, some ⟨g5, 0, none⟩, X ++ [K], sPut S K, by go_num, by omega, by rw [hml], ?_, by rw [← HPL.out]; exact HU8.out, sPut_asc HA.out K, fun x => ?_, HOB8.out, ?_, by omega, HX1.out, ?_, HB8.out⟩
              · rw [hml]
                have h := HO8.out
                rw [show u64s X ++ [.int .u64 (K : Int)] = u64s (X ++ [K]) from by simp [u64s]] at h
                exact h
              · rw [sPut_mem, List.mem_append, List.mem_singleton, HME.out]
                exact Or.comm
              · exact List.nodup_append.2 ⟨HND.out, List.nodup_cons.2 ⟨by simp, List.nodup_nil⟩, fun a ha b hb => by
                  rw [List.mem_singleton.1 hb]
                  rintro rfl
                  exact HKN.out ha⟩
              · rw [hml]
                have := sPut_len2 S K
                omega
      · have d2 : decide ((m : Int) < (most : Int)) = false := by rw [decide_eq_false_iff_not]; omega
        clear hbel
        go_wp2_with fail
        go_ret
        exact ⟨q, cq, X, by rw [HM.out]; rfl, by rw [HM.out, HBB.out]; exact HO.out, HND.out, by have := HM.out; omega, HXB.out, by rw [HBB.out]; exact HBE.out⟩
    · obtain rfl : i = n := by omega
      clear hbel
      go_wp2_with fail
      go_ret
      exact ⟨q, cq, X, by rw [HM.out]; rfl, by rw [HM.out, HBB.out]; exact HO.out, HND.out, by have := HM.out; omega, HXB.out, by rw [HBB.out]; exact HBE.out⟩
end Go.Proofs.Ytidekgmpbcnfmaa
