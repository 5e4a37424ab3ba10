/- Walk of spec.PQTaken. -/
import Derived.Test.YtepjailijekepaaDoorPqSpecB
namespace Go.Proofs.YtepjailijekepaaDoor
set_option linter.unusedVariables false
open Go.RowKit
open Pqm

theorem takesB_at {q : List It} : ∀ {got : List It} {i : Nat}, TakesB q got → i < got.length → got.getD i dI ∈ eraseAll q (got.take i) ∧ ∀ y ∈ eraseAll q (got.take i), (got.getD i dI).1 ≤ y.1 := by
  intro got
  induction got generalizing q with
  | nil => intro i _ h; simp at h
  | cons x r ih =>
    intro i h hi
    cases i with
    | zero => exact ⟨h.1, h.2.1⟩
    | succ i =>
      have := ih (q := q.erase x) h.2.2 (i := i) (by simpa using hi)
      exact this

def TakenLoop (n : Nat) (q got : List It) (w : World) (k : Nat) (left idx : Value) (wr : World) : Prop :=
  ∃ (i : Nat) (pa : Option Addr) (m ca : Nat), left = .slice pa m ca ∧ idx = .int .i64 (i : Int) ∧ i + k = n ∧ Rw 2 wr (.slice pa m ca) (pits (eraseAll q (got.take i))) ∧ Below w.heap.size w wr

theorem eraseAll_take (q got : List It) (i : Nat) (h : i < got.length) : eraseAll q (got.take (i + 1)) = (eraseAll q (got.take i)).erase (got.getD i dI) := by
  rw [take_getI got i h, eraseAll_snoc]

set_option maxRecDepth 100000 in
set_option maxHeartbeats 2000000 in
theorem pqtaken_any (q got : List It) (N : Int) (v u : Value) (w : World) (hv : Rw 2 w v (pits q)) (hu : Rw 2 w u (pits got)) (htk : TakesB q got) (hlen : got.length = min N.toNat q.length) (hN : 1 ≤ N) (hN2 : N ≤ 1000) (h9 : q.length ≤ 100000) :
    Calls Tryd.prog 7 #[v, u, .int .i64 N] w fun e w' => ∃ pa ca, e = .returned (.tuple #[.slice pa (eraseAll q got).length ca, .bool true]) ∧ Rw 2 w' (.slice pa (eraseAll q got).length ca) (pits (eraseAll q got)) ∧ Below w.heap.size w w' := by
  obtain ⟨a, n, cap, rfl, _⟩ := id hu
  have hsm := hu.some
  rw [pits_len] at hsm
  obtain ⟨hla, hc, hm, hr⟩ := hsm
  have hn9 : n ≤ 1000 := by omega
  obtain ⟨va, vn, vc, rfl, _⟩ := id hv
  have hvs := hv.some
  rw [pits_len] at hvs
  obtain ⟨hvn, hvc, hvm, _⟩ := hvs
  have hmin : (min N (vn : Int)) = (n : Int) := by omega
  have hvn9 : vn ≤ 100000 := by omega
  have hql : (pits q).length = vn := by rw [pits_len]; exact hvn
  have HQL := Lib.hid hql
  have HV := Lib.hid hv
  have HU := Lib.hid hu
  have HL := Lib.hid hla
  have H9 := Lib.hid h9
  have HT := Lib.hid htk
  have HMN := Lib.hid hmin
  have hmx0 : 0 + (pits q).length ≤ maxLen := by unfold maxLen; omega
  have hby0 : (0 + (pits q).length) * 16 ≤ 140737488355328 := by omega
  have HM0 := Lib.hid hmx0
  have HB0 := Lib.hid hby0
  have hcase : (N = (n : Int) ∧ n ≤ vn) ∨ ((vn : Int) < N ∧ n ≤ vn ∧ vn ≤ n ∧ (((n : Int) != (vn : Int)) = false)) := by
    by_cases h : N ≤ (vn : Int)
    · exact .inl ⟨by omega, by omega⟩
    · exact .inr ⟨by omega, by omega, by omega, by simp; omega⟩
  clear hv hu hla h9 hql hmx0 hby0 hlen htk hvn hmin
  rcases hcase with ⟨rfl, hnv⟩ | ⟨hnv, hnv2, hnv3, hnv4⟩
  all_goals
    go_enter Tryd.func7, Tryd.ntmps7
    go_wp2_with (at_builtin; refine wpList_apRw rfl _ _ 22 rfl w.heap.size 2 45 (.agg #[.int .i64 0, .int .i64 0]) 16 Tryd.underlying22 info_pqit rfl (by decide) (.slice none 0 0) 0 [] rfl (World.ownsRow_nil _ _ _ _) (.slice va vn vc) (pits q) rfl HV.out (pits_row q) (pfl_cells q) HM0.out HB0.out (Nat.le_refl _) ?_; intro p1 m1 c1 w1 hown1 hg1 hb1; have HO1 := Lib.hid hown1; have HB1 := Lib.hid hb1; clear hown1 hg1 hb1)
    have hm1 : m1 = q.length := by have h1 := ownp_len HO1.out; rw [h1, pits_len]; omega
    have hr1 : Rw 2 w1 (.slice p1 m1 c1) (pits q) := by
      have h1 := HO1.out
      rw [Nat.zero_add, List.nil_append] at h1
      rw [hm1, ← pits_len]
      rw [hm1, ← pits_len] at h1
      exact Rw.of_owns (pits_row _) (by decide) h1
    have HR1 := Lib.hid hr1
    clear hm1 hr1
    go_loopg [8, 23] n (fun k left idx wr => TakenLoop n q got w k left idx wr)
    case atStart => exact ⟨0, p1, m1, c1, rfl, rfl, by omega, by simpa [eraseAll] using HR1.out, HB1.out⟩
    case round =>
      obtain ⟨i, pa, m, ca, rfl, rfl, hik, hrw, hbel⟩ := hrel
      have hsm2 := hrw.some
      rw [pits_len] at hsm2
      obtain ⟨hm2, hmc, hcm, hpr⟩ := hsm2
      have hm9 : m ≤ 100000 := by have h1 := eraseAll_len (got.take i) q; have h2 := H9.out; omega
      have HR := Lib.hid hrw
      have HB := Lib.hid hbel
      have HM2 := Lib.hid hm2
      have hsz := hbel.size
      clear hrw hbel hm2
      by_cases hi : i < n
      · cases gk with
        | zero => omega
        | succ k =>
          obtain ⟨b1, o1, rfl⟩ := hr (by omega)
          have hig : i < got.length := by rw [HL.out]; exact hi
          have hta := takesB_at HT.out hig
          have het := eraseAll_take q got i hig
          obtain ⟨⟨y1, y2⟩, hY⟩ : ∃ Y, got.getD i dI = Y := ⟨_, rfl⟩
          obtain ⟨d0, d1⟩ := HU.out.pit i y1 y2 hig hY
          rw [hY] at hta het
          rw [← HB.out.cell (World.block_lt_of_cell? w _ d0)] at d0
          rw [← HB.out.cell (World.block_lt_of_cell? w _ d1)] at d1
          obtain ⟨Q, hQ⟩ : ∃ Q, eraseAll q (got.take i) = Q := ⟨_, rfl⟩
          rw [hQ] at hta het HR HM2
          have HQ := Lib.hid hQ
          have hbz : Below wr.heap.size wr (wr.alloc (.cells #[.int .i64 y1, .int .i64 y2] 45)) := (Below.refl _ _).alloc (Nat.le_refl _) _
          have hyz := Blk.new wr 45 #[.int .i64 y1, .int .i64 y2]
          have hQ9 : Q.length ≤ 100000 := by rw [HM2.out]; exact hm9
          have HRZ := Lib.hid (HR.out.below rfl hbz)
          have HC1 := Lib.hid (pqleast_any Q (y1, y2) _ _ HRZ.out hQ9 hta.1 hta.2)
          have HYZ := Lib.hid hyz
          have HBZ := Lib.hid (HB.out.trans (hbz.mono hsz))
          have HQ9 := Lib.hid hQ9
          have HTA := Lib.hid hta.1
          have HET := Lib.hid het
          clear hr hY hta het hQ hbz hyz hig hQ9
          go_wp2_with fail
          refine HC1.out.mono ?_
          rintro e w2 ⟨rfl, hb2⟩
          have hy2 := HYZ.out.below hb2 (by simp)
          have y0 : w2.cell? ⟨wr.heap.size, 0, none⟩ = some (.int .i64 y1) := hy2.cell 0 rfl
          have yy1 : w2.cell? ⟨wr.heap.size, 1, none⟩ = some (.int .i64 y2) := hy2.cell 1 rfl
          have HR2 := Lib.hid (HRZ.out.below rfl hb2)
          have HB2 := Lib.hid (HBZ.out.trans (hb2.mono (by simp; omega)))
          have HC2 := Lib.hid (pqfind_any Q (y1, y2) _ w2 HR2.out HQ9.out)
          have hs2 : w.heap.size ≤ w2.heap.size := HB2.out.size
          clear hb2 hy2
          go_wp2_with fail
          refine HC2.out.mono ?_
          rintro e w3 ⟨h | ⟨j, hj, hjx, hno, h⟩, hb3⟩
          · exact absurd HTA.out h.1
          · obtain rfl := h
            have hrw3 := HR2.out.below rfl hb3
            have hjm : j < m := by rw [← HM2.out]; exact hj
            have her := erase_at Q j (y1, y2) hj hjx hno
            have HER := Lib.hid her
            have HB3 := Lib.hid (HB2.out.trans (hb3.mono hs2))
            obtain ⟨bp, op, rfl⟩ := hpr (by omega)
            have hpl : (pits Q).length = m := by rw [pits_len]; exact HM2.out
            have hRA : ∀ wx, Below w3.heap.size w3 wx → Rw 2 wx (.slice (some ⟨bp, op, none⟩) j j) ((pits Q).take j) := fun wx hb => by
              have := (hrw3.below rfl hb).part 0 j j (Nat.zero_le _) (by omega) (by omega) (by omega)
              simpa using this
            obtain ⟨j1, hj1⟩ : ∃ j1, j1 = j + 1 := ⟨_, rfl⟩
            obtain ⟨a2, ha2⟩ : ∃ a2 : Option Addr, (if ca = j1 then some (⟨bp, op, none⟩ : Addr) else some ⟨bp, op + j1 * 2, none⟩) = a2 := ⟨_, rfl⟩
            have hRB : ∀ wx, Below w3.heap.size w3 wx → Rw 2 wx (.slice a2 (m - j1) (ca - j1)) ((pits Q).drop j1) := fun wx hb => by
              rw [← ha2]
              by_cases hlc : ca = j1
              · rw [if_pos hlc]
                have h0 : m - j1 = 0 := by omega
                rw [h0]
                exact ⟨_, _, _, rfl, by rw [List.length_drop]; omega, Nat.zero_le _, by omega, fun h => absurd h (Nat.lt_irrefl _)⟩
              · rw [if_neg hlc]
                have := (hrw3.below rfl hb).part j1 m (ca - j1) (by omega) (by omega) (by omega) (by omega)
                rw [List.take_of_length_le (by rw [List.length_drop]; omega)] at this
                exact this
            have hjca : j ≤ ca := by omega
            have hj1m : (j1 : Int) ≤ (m : Int) := by omega
            have hw1 : IntKind.i64.wrap ((j : Int) + 1) = (j1 : Int) := by rw [IntKind.wrap_i64] <;> omega
            have hj10 : (0 : Int) ≤ (j1 : Int) := by omega
            have hj1c : j1 ≤ ca := by omega
            have hjj : (j : Int) ≤ (ca : Int) := by omega
            have htb : ((pits Q).drop j1).length = m - j1 := by rw [List.length_drop]; omega
            have HJ1 := Lib.hid hj1
            have HRA := Lib.hid hRA
            have HRB := Lib.hid hRB
            have HTB := Lib.hid htb
            have HHJ := Lib.hid (And.intro hj (And.intro hjx hno))
            clear hj hjx hno hb3 her hpl hRA hRB hj1 hrw3 htb y0 yy1 d0 d1
            go_wp2_with fail
            go_region_law
              (first
                | (refine step_apCut (by rfl) (.tmp 37) (.tmp 41) 22 (by rfl) 2 45 (.agg #[.int .i64 0, .int .i64 0]) 16 Tryd.underlying22 info_pqit rfl (by decide) (some ⟨bp, op, none⟩) j ((pits Q).take j) (by go_simp) (.slice a2 (m - j1) (ca - j1)) ((pits Q).drop j1) (by go_simp) (HRA.out _ ?_) (HRB.out _ ?_) ?_ ?_ ?_ ?_ ?_ ?_
                   focus ((repeat (first | with_reducible exact Below.refl _ _ | with_reducible refine Below.drew ?_)); done)
                   focus ((repeat (first | with_reducible exact Below.refl _ _ | with_reducible refine Below.drew ?_)); done)
                   focus (exact fun r hr => pits_row Q r (List.mem_of_mem_take hr); done)
                   focus (intro h; cases h; done)
                   focus (exact fun r hr => pits_row Q r (List.mem_of_mem_drop hr); done)
                   focus (rw [HTB.out]; unfold maxLen; omega; done)
                   focus (rw [HTB.out]; omega; done)
                   intro p9 c9 w9 hrw9 hb9
                   have HR9 := Lib.hid hrw9
                   have HB9 : Hid (Below w.heap.size w w9) := Lib.hid (HB3.out.trans (Below.trans (by (repeat (first | with_reducible exact Below.refl _ _ | with_reducible refine Below.drew ?_))) (hb9.mono (by have := HB3.out.size; first | exact this | (simp; omega)))))
                   clear hrw9 hb9)
                | fail)
            all_goals
              go_wp2_with fail
              go_roundg k
              case measure => omega
              case rel =>
                refine ⟨i + 1, p9, _, c9, rfl, by go_num, by omega, ?_, HB9.out⟩
                rw [HET.out, HER.out]
                have e : pits (Q.take j ++ Q.drop (j + 1)) = (pits Q).take j ++ (pits Q).drop j1 := by rw [HJ1.out]; simp [pits, List.map_take, List.map_drop]
                rw [e]
                have h9 := HR9.out
                rw [List.length_drop] at h9
                exact h9
      · obtain ⟨I, hI⟩ : ∃ I, I = n := ⟨_, rfl⟩
        obtain rfl : i = I := by omega
        subst hI
        have hd : decide ((i : Int) < (i : Int)) = false := by simp
        go_wp2_with fail
        go_ret2
        have h1 := HR.out
        have h2 := HM2.out
        rw [List.take_of_length_le (by rw [HL.out]; exact Nat.le_refl _)] at h1 h2
        subst h2
        exact ⟨pa, ca, rfl, h1, HB.out⟩
end Go.Proofs.YtepjailijekepaaDoor
