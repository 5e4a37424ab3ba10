/- Walk of impl.PQRun. -/
import Derived.Test.YtepjailijekepaaDoorPqAny
namespace Go.Proofs.YtepjailijekepaaDoor
set_option linter.unusedVariables false
open Go.RowKit
open Pqm

theorem info_psaid : (Tryd.prog.info? 33).map (fun i => (i.zero, i.size, i.bytes)) = some (some (.agg #[.slice none 0 0, .int .i64 0, .bool false, .int .i64 0]), 4, 48) := by kernel_rfl

def Runs (dup : Bool) : Que → List Stp → List Sad → Que → Prop
  | σ, [], [], σ' => σ = σ'
  | σ, s :: ss, t :: ts, σ' => ∃ σ1, PStep dup σ s σ1 t ∧ Runs dup σ1 ss ts σ'
  | _, _, _, _ => False
theorem runs_snoc {dup : Bool} {s : Stp} {t : Sad} {σ2 : Que} : ∀ {ss : List Stp} {ts : List Sad} {σ σ1 : Que}, Runs dup σ ss ts σ1 → PStep dup σ1 s σ2 t → Runs dup σ (ss ++ [s]) (ts ++ [t]) σ2
  | [], [], σ, σ1, h, h2 => by
    have h : σ = σ1 := h
    subst h
    exact ⟨σ2, h2, rfl⟩
  | s' :: ss, t' :: ts, σ, σ1, ⟨σ3, h3, h4⟩, h2 => ⟨σ3, h3, runs_snoc h4 h2⟩
  | [], _ :: _, _, _, h, _ => h.elim
  | _ :: _, [], _, _, h, _ => h.elim
theorem runs_len {dup : Bool} : ∀ {ss : List Stp} {ts : List Sad} {σ σ1 : Que}, Runs dup σ ss ts σ1 → ts.length = ss.length
  | [], [], σ, σ1, h => rfl
  | s' :: ss, t' :: ts, σ, σ1, ⟨σ3, h3, h4⟩ => by simp [runs_len h4]
  | [], _ :: _, _, _, h => h.elim
  | _ :: _, [], _, _, h => h.elim

theorem rowp_ne {w : World} {B B' : Nat} {e e' : TypeId} {z z' : Nat} {v v' : Value} {n n' : Nat} {xs xs' : List Value} (h1 : w.ownsRow B e z v n xs) (h2 : w.ownsRow B' e' z' v' n' xs') (he : e ≠ e') : v.ownBlock = none ∨ v.ownBlock ≠ v'.ownBlock := by
  rcases h1.2 with ⟨rfl, _⟩ | ⟨g, cap, cur, rfl, _, hg, _⟩
  · exact .inl rfl
  · right
    rcases h2.2 with ⟨rfl, _⟩ | ⟨g', cap', cur', rfl, _, hg', _⟩
    · simp [Value.ownBlock]
    · intro e2
      simp [Value.ownBlock] at e2
      subst e2
      rw [hg] at hg'
      simp at hg'
      exact he hg'.2

/-- a row of another type lies apart from the queue -/
theorem PSt.apart {w : World} {b m : Nat} {p : Option Addr} {q : List It} {gone dup : Bool} (H : PSt w b m p q gone dup) {B : Nat} {e : TypeId} {size : Nat} {v : Value} {n : Nat} {xs : List Value} (ho : w.ownsRow B e size v n xs) (h1 : e ≠ 64) (h2 : e ≠ 53) :
    ∀ k, v.ownBlock = some k → k ≠ b ∧ k ≠ m ∧ some k ≠ obk p := by
  obtain ⟨c, L, ks, h3, h4⟩ := H.h
  intro k hk
  refine ⟨fun e => ?_, fun e => ?_, fun e => ?_⟩
  · subst e
    exact row_blkp ho h3.q.blk h2 hk
  · subst e
    rcases ho.2 with ⟨rfl, _⟩ | ⟨g, cap, cur, rfl, _, hg, _⟩
    · cases hk
    · have e : g = k := by injection hk
      subst e
      obtain ⟨es, cl, hm, _⟩ := h3.v
      rw [hg] at hm
      cases hm
  · rcases rowp_ne ho h3.q.own h1 with h5 | h5
    · rw [h5] at hk; cases hk
    · rw [own_obk h3.q, hk] at h5
      exact h5 e
theorem PSt.grow {w w' : World} {b m : Nat} {p : Option Addr} {q : List It} {gone dup : Bool} (H : PSt w b m p q gone dup) {row : Option Nat} (hg : w.grownBy w' row) (hr : ∀ k, row = some k → k ≠ b ∧ k ≠ m ∧ some k ≠ obk p) : PSt w' b m p q gone dup := by
  cases row with
  | some k => exact H.grown hg (hr k rfl).1 (hr k rfl).2.1 (fun e => (hr k rfl).2.2 e.symm)
  | none =>
    obtain ⟨c, L, ks, h4, h5⟩ := H.h
    exact ⟨c, L, ks, ⟨h4.q.grown hg (fun j e => by cases e), h4.v.grown hg (by simp), h4.ne⟩, h5⟩
theorem PqFr.below {b m B : Nat} {g g' : Option Nat} {w w' : World} (h : PqFr b m g g' w w') (hb : B ≤ b) (hm : B ≤ m) (hg : ∀ k, g = some k → B ≤ k) (hw : B ≤ w.heap.size) : Below B w w' :=
  ⟨h.os, h.tape, h.output, h.size, fun k hk => h.block k (by omega) (by omega) (by omega) (fun e => by have := hg k e.symm; omega)⟩

/-- steps as rows of three cells -/
def StepsAt (w : World) (R : List (List Value)) (S : List Stp) : Prop := R.length = S.length ∧ ∀ (i : Nat) (row : List Value) (s : Stp), R[i]? = some row → S[i]? = some s → ∃ v, row = [.int .i64 s.1, .int .i64 s.2.1, v] ∧ Rw 2 w v (pits s.2.2)
/-- what steps say as rows of four cells -/
def SaidAt (w : World) (B : Nat) (R : List (List Value)) (T : List Sad) : Prop := R.length = T.length ∧ ∀ (i : Nat) (row : List Value) (t : Sad), R[i]? = some row → T[i]? = some t → ∃ (pa : Option Addr) (ca : Nat), row = [.slice pa t.1.length ca, .int .i64 t.2.1, .bool t.2.2.1, .int .i64 t.2.2.2] ∧ w.ownsRow B 45 2 (.slice pa t.1.length ca) t.1.length (pfl t.1)

theorem putAll_len2 (dup : Bool) (q l : List It) : (putAll dup q l).length ≤ q.length + l.length := putAll_len dup l q
theorem eraseAll_len (got : List It) : ∀ q : List It, (eraseAll q got).length ≤ q.length := by
  induction got with
  | nil => intro q; exact Nat.le_refl _
  | cons x r ih => intro q; exact Nat.le_trans (ih _) List.length_erase_le
theorem pstep_len {dup : Bool} {σ σ' : Que} {s : Stp} {t : Sad} (h : PStep dup σ s σ' t) : σ'.2.length ≤ σ.2.length + s.2.2.length := by
  have e := putAll_len2 dup σ.2 s.2.2
  have e2 := eraseAll_len t.1 σ.2
  rcases h with h | h | h | h | h | h | h | h | h | h | h
  · rw [h.2.2.1]; omega
  · rw [h.2.2.1]; exact e
  · rw [h.2.2.1]; omega
  · rw [h.2.2.2.1]; omega
  · rw [h.2.2.2.2.2.1]; exact Nat.le_trans e2 (Nat.le_add_right _ _)
  · rw [h.2.2.1]; omega
  · rw [h.2.2.1]; omega
  · rw [h.2.1]; omega
  · rw [h.2.1]; omega
  · rw [h.2]; simp
  · rw [h.2.1]; omega

def RunLoop (n b m : Nat) (S : List Stp) (dup : Bool) (w : World) (k : Nat) (out idx : Value) (wr : World) : Prop :=
  ∃ (i : Nat) (pa p : Option Addr) (ca : Nat) (rows : List (List Value)) (T : List Sad) (σ : Que), out = .slice pa i ca ∧ idx = .int .i64 (i : Int) ∧ i + k = n ∧ wr.ownsRow w.heap.size 33 4 (.slice pa i ca) i rows.flatten ∧ (∀ r ∈ rows, r.length = 4) ∧ rows.length = i ∧
    SaidAt wr w.heap.size rows T ∧ Runs dup (false, []) (S.take i) T σ ∧ σ.2.length ≤ 100 * i ∧ PSt wr b m p σ.2 σ.1 dup ∧ (∀ k, obk p = some k → w.heap.size ≤ k) ∧ Below w.heap.size w wr

set_option maxRecDepth 100000 in
set_option maxHeartbeats 2000000 in
theorem pqrun_any (a0 a1 a2 : Addr) (hint : Nat) (dup : Bool) (S : List Stp) (v : Value) (R : List (List Value)) (w : World) (hS : Sn w a0 a1 a2) (hv : Rw 3 w v R) (hst : StepsAt w R S) (hok : ∀ s ∈ S, StOk s ∧ s.2.2.length ≤ 100) (hn : S.length ≤ 100) (hh : hint ≤ 64) :
    Calls Tryd.prog 5 #[.int .i64 (hint : Int), .bool dup, v] w fun e w' => ∃ (pa : Option Addr) (ca : Nat) (rows : List (List Value)) (T : List Sad) (σ : Que), e = .returned (.slice pa S.length ca) ∧ w'.ownsRow w.heap.size 33 4 (.slice pa S.length ca) S.length rows.flatten ∧ (∀ r ∈ rows, r.length = 4) ∧ rows.length = S.length ∧ SaidAt w' w.heap.size rows T ∧ Runs dup (false, []) S T σ ∧ Below w.heap.size w w' := by
  obtain ⟨a, n, cap, rfl, hla, hc, hm, hr⟩ := hv
  have hnS : S.length = n := by rw [← hst.1, hla]
  rw [hnS] at hn ⊢
  have HS := Lib.hid hS
  have HST := Lib.hid hst
  have HOK := Lib.hid hok
  have HNS := Lib.hid hnS
  have HLA := Lib.hid hla
  have HN := Lib.hid (New_any hint dup w hh)
  clear hS hst hok hnS hla
  go_enter Tryd.func5, Tryd.ntmps5
  go_wp2_with fail
  refine HN.out.mono ?_
  rintro e w1 ⟨b, m, p, c, rfl, hq, hbel, hbb, hbm, hbp⟩
  have HP1 : Hid (PSt w1 b m p [] false dup) := Lib.hid ⟨c, [], [], hq, (fun i _ hi => absurd hi (by simp)), List.Perm.refl _, fun _ => by cases dup <;> simp [KsOk], fun h => by cases h⟩
  have HB1 := Lib.hid hbel
  have HBP := Lib.hid hbp
  clear hq hbel hbp
  go_wp2_with fail
  go_loopg [8, 16] n (fun k out idx wr => RunLoop n b m S dup w k out idx wr)
  case atStart => exact ⟨0, none, p, 0, [], [], (false, []), rfl, rfl, by omega, by simpa using World.ownsRow_nil w1 w.heap.size 33 4, by simp, rfl, ⟨rfl, fun i row t h => by simp at h⟩, rfl, by simp, HP1.out, HBP.out, HB1.out⟩
  case round =>
    obtain ⟨i, pa, p1, ca, rows, T, σ, rfl, rfl, hik, hown, hrl, hrn, hsaid, hruns, hsl, hps, hpp, hbel⟩ := hrel
    have HO := Lib.hid hown
    have HRL := Lib.hid hrl
    have HRN := Lib.hid hrn
    have HSA := Lib.hid hsaid
    have HRU := Lib.hid hruns
    have HP := Lib.hid hps
    have HPP := Lib.hid hpp
    have HB := Lib.hid hbel
    have hsz := hbel.size
    clear hown hrl hrn hsaid hruns hps hpp hbel
    by_cases hi : i < n
    · cases gk with
      | zero => omega
      | succ k =>
        obtain ⟨b1, o1, rfl, hcell⟩ := hr (by omega)
        have hiR : i < R.length := by rw [HLA.out]; exact hi
        have hiS : i < S.length := by rw [HNS.out]; exact hi
        obtain ⟨vs, hrow, hrw⟩ := HST.out.2 i _ _ (List.getElem?_eq_getElem hiR) (List.getElem?_eq_getElem hiS)
        have hsok := HOK.out _ (List.getElem_mem hiS)
        have ht : S.take (i + 1) = S.take i ++ [S[i]] := List.take_succ_eq_append_getElem hiS
        obtain ⟨s, hs⟩ : ∃ s, S[i] = s := ⟨_, rfl⟩
        rw [hs] at hrow hrw hsok ht
        obtain ⟨op, sn, its⟩ := s
        have hR := List.getElem?_eq_getElem hiR
        rw [hrow] at hR
        have d0 := hcell i _ hR 0 (.int .i64 op) rfl
        have d1 := hcell i _ hR 1 (.int .i64 sn) rfl
        have d2 := hcell i _ hR 2 vs rfl
        rw [← HB.out.cell (World.block_lt_of_cell? w _ d0), Nat.add_zero] at d0
        rw [← HB.out.cell (World.block_lt_of_cell? w _ d1), ← Nat.add_assoc] at d1
        rw [← HB.out.cell (World.block_lt_of_cell? w _ d2), ← Nat.add_assoc] at d2
        have hvs : ∃ a n c, vs = .slice a n c := by obtain ⟨a, n, c, e, _⟩ := hrw; exact ⟨a, n, c, e⟩
        obtain ⟨va, vn, vc, rfl⟩ := hvs
        have hbz : Below wr.heap.size wr (wr.alloc (.cells #[.int .i64 op, .int .i64 sn, .slice va vn vc] 24)) := (Below.refl _ _).alloc (Nat.le_refl _) _
        have hBz : Below w.heap.size w (wr.alloc (.cells #[.int .i64 op, .int .i64 sn, .slice va vn vc] 24)) := HB.out.trans (hbz.mono hsz)
        have HC := Lib.hid (pstep_any a0 a1 a2 b m p1 σ dup (op, sn, its) (.slice va vn vc) _ (HS.out.below (Nat.le_refl _) hBz) (HP.out.below hbz) (hrw.below rfl hBz) hsok.1 (by have h1 := hsok.2; have : its.length ≤ 100 := h1; show σ.2.length + its.length ≤ 100000; omega))
        have HI9 : Hid (its.length ≤ 100) := Lib.hid hsok.2
        have HTK := Lib.hid ht
        have HBZ := Lib.hid hbz
        have HBW := Lib.hid hBz
        clear hr hcell hiR hiS hrow hrw hsok ht hs hR hbz hBz
        go_wp2_with fail
        refine HC.out.mono ?_
        rintro e w2 ⟨σ', t, p', pb, cb, rfl, ho2, hp2, hf2, hst2⟩
        have HO2 := Lib.hid ho2
        have HP2 := Lib.hid hp2
        have HF2 := Lib.hid hf2
        have HST2 := Lib.hid hst2
        obtain ⟨TL, hTL⟩ : ∃ TL, t.1.length = TL := ⟨_, rfl⟩
        obtain ⟨T1, hT1⟩ : ∃ x, t.2.1 = x := ⟨_, rfl⟩
        obtain ⟨T2, hT2⟩ : ∃ x, t.2.2.1 = x := ⟨_, rfl⟩
        obtain ⟨T3, hT3⟩ : ∃ x, t.2.2.2 = x := ⟨_, rfl⟩
        rw [hTL, hT1, hT2, hT3]
        have HE := Lib.hid (And.intro hTL (And.intro hT1 (And.intro hT2 hT3)))
        have hz2 : (wr.alloc (.cells #[.int .i64 op, .int .i64 sn, .slice va vn vc] 24)).heap.size ≤ w2.heap.size := hf2.size
        simp at hz2
        have hoa : w2.ownsRow w.heap.size 33 4 (.slice pa i ca) i rows.flatten := hf2.owns (HO.out.alloc _) ((HP.out.below HBZ.out).apart (HO.out.alloc _) (by decide) (by decide))
        have HOA := Lib.hid hoa
        have hmx : i + 1 ≤ maxLen := by unfold maxLen; omega
        have hone : ∀ u ∈ (#[.slice pb TL cb, .int .i64 T1, .bool T2, .int .i64 T3] : Array Value).toList, u.oneCell' = true := by
          intro u hu
          simp at hu
          rcases hu with rfl | rfl | rfl | rfl <;> rfl
        have HON := Lib.hid hone
        clear ho2 hp2 hf2 hst2 hTL hT1 hT2 hT3 hoa hone d0 d1 d2
        go_wp2_with (at_builtin; refine wpList_appendS rfl _ _ 25 rfl w.heap.size 4 33 (.agg #[.slice none 0 0, .int .i64 0, .bool false, .int .i64 0]) 48 Tryd.underlying25 info_psaid rfl (by decide) (.slice pa i ca) i rows.flatten rfl HOA.out #[.slice pb TL cb, .int .i64 T1, .bool T2, .int .i64 T3] rfl rfl HON.out hmx (by omega) (by omega) ?_; intro g3 cap3 w3 hown3 hg3 hb3; have HO3 := Lib.hid hown3; have HG3 := Lib.hid hg3; have HB3 := Lib.hid hb3; clear hown3 hg3 hb3)
        go_roundg k
        case measure => omega
        case rel =>
          obtain ⟨hE1, hE2, hE3, hE4⟩ := HE.out
          have hbase : ∀ k, obk p1 = some k → w.heap.size ≤ k := HPP.out
          have hB2 : Below w.heap.size w w2 := HBW.out.trans (HF2.out.below hbb hbm hbase (by simp; omega))
          have hkeep : ∀ {v : Value} {nn : Nat} {xs : List Value}, wr.ownsRow w.heap.size 45 2 v nn xs → w3.ownsRow w.heap.size 45 2 v nn xs := fun h => by
            have h1 := HF2.out.owns (h.alloc _) ((HP.out.below HBZ.out).apart (h.alloc (.cells #[.int .i64 op, .int .i64 sn, .slice va vn vc] 24)) (by decide) (by decide))
            exact h1.kept HG3.out (rowp_ne h1 HOA.out (by decide))
          refine ⟨i + 1, _, p', _, rows ++ [[.slice pb TL cb, .int .i64 T1, .bool T2, .int .i64 T3]], T ++ [t], σ', rfl, by go_num, by omega, by simpa using HO3.out, ?_, by simp [HRN.out], ⟨?_, ?_⟩, ?_, ?_, ?_, ?_, hB2.trans HB3.out⟩
          · intro r hr
            rcases List.mem_append.1 hr with h | h
            · exact HRL.out r h
            · simp at h; subst h; rfl
          · simp [HSA.out.1]
          · intro j row t' hj ht'
            by_cases hji : j < i
            · rw [List.getElem?_append_left (by rw [HRN.out]; exact hji)] at hj
              rw [List.getElem?_append_left (by rw [← HSA.out.1, HRN.out]; exact hji)] at ht'
              obtain ⟨pa', ca', e1, e2⟩ := HSA.out.2 j row t' hj ht'
              exact ⟨pa', ca', e1, hkeep e2⟩
            · have hj1 := (List.getElem?_eq_some_iff.1 hj).1
              simp [HRN.out] at hj1
              obtain rfl : j = i := by omega
              rw [List.getElem?_append_right (by rw [HRN.out]; exact Nat.le_refl _), HRN.out, Nat.sub_self] at hj
              rw [List.getElem?_append_right (by rw [← HSA.out.1, HRN.out]; exact Nat.le_refl _), ← HSA.out.1, HRN.out, Nat.sub_self] at ht'
              simp at hj ht'
              subst hj; subst ht'
              have ho := HO2.out
              have ho1 := ho.kept HG3.out (rowp_ne ho HOA.out (by decide))
              exact ⟨pb, cb, by rw [hE1, hE2, hE3, hE4], rowp_weaken ho1 (by simp; omega)⟩
          · rw [HTK.out]
            exact runs_snoc HRU.out HST2.out
          · have h1 := pstep_len HST2.out
            have h2 : its.length ≤ 100 := HI9.out
            have h3 : σ'.2.length ≤ σ.2.length + its.length := h1
            omega
          · exact HP2.out.grow HG3.out (HP2.out.apart HOA.out (by decide) (by decide))
          · intro k hk
            rcases HF2.out.next k hk with h | h
            · exact hbase k h
            · simp at h; omega
    · obtain ⟨I, hI⟩ : ∃ I, I = n := ⟨_, rfl⟩
      obtain rfl : i = I := by omega
      subst hI
      have hd : decide ((i : Int) < (i : Int)) = false := by simp
      go_wp2_with fail
      go_ret
      have h1 := HRU.out
      rw [List.take_of_length_le (by rw [HNS.out]; exact Nat.le_refl _)] at h1
      exact ⟨pa, ca, rows, T, σ, rfl, HO.out, HRL.out, HRN.out, HSA.out, h1, HB.out⟩
end Go.Proofs.YtepjailijekepaaDoor
