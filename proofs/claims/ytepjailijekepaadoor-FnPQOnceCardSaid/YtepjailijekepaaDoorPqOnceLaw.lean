/- FnPQOnce: without duplicates each element comes out once. -/
import Derived.Test.YtepjailijekepaaDoorPqRunsEnd
namespace Go.Proofs.YtepjailijekepaaDoor
set_option linter.unusedVariables false
open Go.RowKit
open Pqm

theorem putAll_in : ∀ (l P : List It), (∀ x ∈ l, x ∈ P) → putAll false P l = P
  | [], P, _ => rfl
  | x :: r, P, h => by
    have e : putAll false P (x :: r) = putAll false (if false || !decide (x ∈ P) then P ++ [x] else P) r := rfl
    rw [e]
    simp only [h x (by simp), decide_true, Bool.not_true, Bool.or_self, Bool.false_eq_true, if_false]
    exact putAll_in r P (fun y hy => h y (by simp [hy]))
theorem putAll_mem (x : It) : ∀ (l P : List It), x ∈ putAll false P l ↔ x ∈ P ∨ x ∈ l
  | [], P => by simp [putAll]
  | y :: r, P => by
    have e : putAll false P (y :: r) = putAll false (if false || !decide (y ∈ P) then P ++ [y] else P) r := rfl
    rw [e, putAll_mem x r]
    by_cases hy : y ∈ P
    · simp only [hy, decide_true, Bool.not_true, Bool.or_self, Bool.false_eq_true, if_false, List.mem_cons]
      constructor
      · rintro (h | h)
        · exact .inl h
        · exact .inr (.inr h)
      · rintro (h | rfl | h)
        · exact .inl h
        · exact .inl hy
        · exact .inr h
    · simp only [hy, decide_false, Bool.not_false, Bool.or_true, if_true, List.mem_append, List.mem_cons, List.not_mem_nil, or_false]
      exact or_assoc
theorem takesB_len : ∀ (G P : List It), TakesB P G → (eraseAll P G).length + G.length = P.length
  | [], P, _ => by simp [eraseAll]
  | x :: r, P, h => by
    have e : eraseAll P (x :: r) = eraseAll (P.erase x) r := rfl
    have h1 := takesB_len r (P.erase x) h.2.2
    have h2 := List.length_erase_of_mem h.1
    have h3 := List.length_pos_of_mem h.1
    rw [e, List.length_cons]
    omega

def putS (l : List It) : Stp := (1, 0, l)
def getS : Stp := (2, 1000, [])
def cntS : Stp := (4, 0, [])
def onceS (l : List It) : List Stp := [putS l, putS l, cntS, getS, putS l, cntS, getS]

theorem step_put {σ σ' : Que} {l : List It} {t : Sad} (h : PStep false σ (putS l) σ' t) (hg : σ.1 = false) : σ' = (false, putAll false σ.2 l) := by
  unfold PStep putS at h
  simp [hg] at h
  exact h.1
theorem step_cnt {σ σ' : Que} {t : Sad} (h : PStep false σ cntS σ' t) : σ' = σ ∧ t.2.1 = (σ.2.length : Int) := by
  unfold PStep cntS at h
  simpa using h
theorem step_get {σ σ' : Que} {t : Sad} (h : PStep false σ getS σ' t) (hg : σ.1 = false) (hn : σ.2 ≠ []) : TakesB σ.2 t.1 ∧ t.1.length = min 1000 σ.2.length ∧ σ' = (false, eraseAll σ.2 t.1) ∧ t.2.2.2 = 0 := by
  unfold PStep getS at h
  simp [hg, hn] at h
  exact h

theorem once_runs (l : List It) (hl : l ≠ []) (h40 : l.length ≤ 40) {T : List Sad} {σ : Que} (h : Runs false (false, []) (onceS l) T σ) :
    ∃ t0 t1 t2 t3 t4 t5 t6, T = [t0, t1, t2, t3, t4, t5, t6] ∧
      t2.2.1 = ((putAll false [] l).length : Int) ∧ TakesB (putAll false [] l) t3.1 ∧ t3.1.length = (putAll false [] l).length ∧ t3.2.2.2 = 0 ∧
      t5.2.1 = ((putAll false [] l).length : Int) ∧ TakesB (putAll false [] l) t6.1 ∧ t6.1.length = (putAll false [] l).length ∧ t6.2.2.2 = 0 := by
  match T, h with
  | [t0, t1, t2, t3, t4, t5, t6], h =>
    obtain ⟨s0, p0, s1, p1, s2, p2, s3, p3, s4, p4, s5, p5, s6, p6, _⟩ := h
    obtain ⟨P, hP⟩ : ∃ P, putAll false [] l = P := ⟨_, rfl⟩
    have hPl : P.length ≤ 40 := by
      have := putAll_len2 false [] l
      rw [hP] at this
      simp at this
      omega
    have hPn : P ≠ [] := by
      intro e
      cases l with
      | nil => exact hl rfl
      | cons x r =>
        have := (putAll_mem x (x :: r) []).2 (.inr (by simp))
        rw [hP, e] at this
        simp at this
    have e0 := step_put p0 rfl
    simp only [hP] at e0
    subst e0
    have e1 := step_put p1 rfl
    simp only at e1
    rw [putAll_in l P (fun x hx => by rw [← hP]; exact (putAll_mem x l []).2 (.inr hx))] at e1
    subst e1
    obtain ⟨rfl, n2⟩ := step_cnt p2
    obtain ⟨k3, l3, rfl, z3⟩ := step_get p3 rfl hPn
    simp only at k3 l3 p4 n2
    have len3 : t3.1.length = P.length := by rw [l3]; omega
    have he3 : eraseAll P t3.1 = [] := by
      have := takesB_len _ _ k3
      exact List.eq_nil_of_length_eq_zero (by omega)
    rw [he3] at p4
    have e4 := step_put p4 rfl
    simp only [hP] at e4
    subst e4
    obtain ⟨rfl, n5⟩ := step_cnt p5
    obtain ⟨k6, l6, rfl, z6⟩ := step_get p6 rfl hPn
    simp only at k6 l6 n5
    have len6 : t6.1.length = P.length := by rw [l6]; omega
    rw [hP]
    exact ⟨t0, t1, t2, t3, t4, t5, t6, rfl, n2, k3, len3, z3, n5, k6, len6, z6⟩
theorem once_ok (l : List It) (hl : l ≠ []) (h40 : l.length ≤ 40) : ∀ s ∈ onceS l, StOk s ∧ s.2.2.length ≤ 100 := by
  intro s hs
  have hp : StOk (putS l) ∧ (putS l).2.2.length ≤ 100 := ⟨⟨(by show (1 : Int) ≤ 1; decide), (by show (1 : Int) ≤ 7; decide), fun _ => hl, fun h => absurd h (by show ¬ (1 : Int) = 2; decide)⟩, by show l.length ≤ 100; omega⟩
  have hg : StOk getS ∧ getS.2.2.length ≤ 100 := ⟨⟨by decide, by decide, (fun h => by cases h), fun _ => by decide⟩, by decide⟩
  have hc : StOk cntS ∧ cntS.2.2.length ≤ 100 := ⟨⟨by decide, by decide, (fun h => by cases h), (fun h => by cases h)⟩, by decide⟩
  unfold onceS at hs
  simp only [List.mem_cons, List.not_mem_nil, or_false] at hs
  rcases hs with rfl | rfl | rfl | rfl | rfl | rfl | rfl
  · exact hp
  · exact hp
  · exact hc
  · exact hg
  · exact hp
  · exact hc
  · exact hg

/-- the rows of the seven steps -/
def onceR (v : Value) : List (List Value) :=
  [[.int .i64 1, .int .i64 0, v], [.int .i64 1, .int .i64 0, v], [.int .i64 4, .int .i64 0, .slice none 0 0], [.int .i64 2, .int .i64 1000, .slice none 0 0], [.int .i64 1, .int .i64 0, v], [.int .i64 4, .int .i64 0, .slice none 0 0], [.int .i64 2, .int .i64 1000, .slice none 0 0]]
theorem once_rows (v : Value) : ∀ r ∈ onceR v, r.length = 3 := by
  intro r hr
  simp only [onceR, List.mem_cons, List.not_mem_nil, or_false] at hr
  rcases hr with rfl | rfl | rfl | rfl | rfl | rfl | rfl <;> rfl
theorem once_at (w : World) (v : Value) (l : List It) (h : Rw 2 w v (pits l)) : StepsAt w (onceR v) (onceS l) := by
  refine ⟨rfl, fun i row s hi hs => ?_⟩
  have hn : Rw 2 w (.slice none 0 0) (pits []) := Rw.nil 2 w
  match i, hi, hs with
  | 0, hi, hs => simp [onceR, onceS] at hi hs; subst hi; subst hs; exact ⟨v, rfl, h⟩
  | 1, hi, hs => simp [onceR, onceS] at hi hs; subst hi; subst hs; exact ⟨v, rfl, h⟩
  | 2, hi, hs => simp [onceR, onceS] at hi hs; subst hi; subst hs; exact ⟨_, rfl, hn⟩
  | 3, hi, hs => simp [onceR, onceS] at hi hs; subst hi; subst hs; exact ⟨_, rfl, hn⟩
  | 4, hi, hs => simp [onceR, onceS] at hi hs; subst hi; subst hs; exact ⟨v, rfl, h⟩
  | 5, hi, hs => simp [onceR, onceS] at hi hs; subst hi; subst hs; exact ⟨_, rfl, hn⟩
  | 6, hi, hs => simp [onceR, onceS] at hi hs; subst hi; subst hs; exact ⟨_, rfl, hn⟩
  | i + 7, hi, hs => simp [onceR] at hi

set_option maxRecDepth 100000 in
set_option maxHeartbeats 4000000 in
theorem law_pqonce (v : Value) (w : World) (hv : AnyIts w v) (a0 a1 a2 : Addr) (hS : Sn w a0 a1 a2) :
    Calls Tryd.prog 3 #[v] w fun e w' => e = .returned (.bool true) ∧ Below w.heap.size w w' := by
  obtain ⟨l, hrw⟩ := hv
  obtain ⟨a, c, rfl⟩ := rw_out hrw
  obtain ⟨n, hn⟩ : ∃ n, l.length = n := ⟨_, rfl⟩
  have hm := hrw.some
  rw [hn] at hrw hm ⊢
  have hmm : n ≤ maxLen := by omega
  unfold maxLen at hmm
  have HRW := Lib.hid hrw
  have HS := Lib.hid hS
  have HN := Lib.hid hn
  clear hrw hS hn hm
  by_cases hbig : (2147483647 : Int) < (n : Int)
  · have hd : decide ((2147483647 : Int) < (n : Int)) = true := by simpa using hbig
    go_enter Tryd.func3, Tryd.ntmps3
    go_wp2_with fail
    go_ret
    exact ⟨rfl, Below.refl _ _⟩
  · have hd : decide ((2147483647 : Int) < (n : Int)) = false := by simpa using hbig
    by_cases h0 : n = 0
    · subst h0
      go_enter Tryd.func3, Tryd.ntmps3
      go_wp2_with fail
      go_ret
      exact ⟨rfl, Below.refl _ _⟩
    · have hz : ((n : Int) == 0) = false := by simp; omega
      by_cases h40 : (40 : Int) < (n : Int)
      · have hd2 : decide ((40 : Int) < (n : Int)) = true := by simpa using h40
        go_enter Tryd.func3, Tryd.ntmps3
        go_wp2_with fail
        go_ret
        exact ⟨rfl, Below.refl _ _⟩
      · have hd2 : decide ((40 : Int) < (n : Int)) = false := by simpa using h40
        have hl0 : l ≠ [] := by intro e; have := HN.out; rw [e] at this; simp at this; omega
        have hl40 : l.length ≤ 40 := by rw [HN.out]; omega
        have HL0 := Lib.hid hl0
        have HL40 := Lib.hid hl40
        clear hl0 hl40 hbig
        go_enter Tryd.func3, Tryd.ntmps3
        go_wp2_with fail
        have hW : Below w.heap.size w ((((w.alloc (.cells #[.int .i64 1, .int .i64 0, .slice a n c] 24)).alloc (.cells #[.int .i64 2, .int .i64 1000, .slice none 0 0] 24)).alloc (.cells #[.int .i64 4, .int .i64 0, .slice none 0 0] 24)).alloc (.cells #[.int .i64 1, .int .i64 0, .slice a n c, .int .i64 1, .int .i64 0, .slice a n c, .int .i64 4, .int .i64 0, .slice none 0 0, .int .i64 2, .int .i64 1000, .slice none 0 0, .int .i64 1, .int .i64 0, .slice a n c, .int .i64 4, .int .i64 0, .slice none 0 0, .int .i64 2, .int .i64 1000, .slice none 0 0] 24)) := ((((Below.refl _ _).alloc (Nat.le_refl _) _).alloc (by simp) _).alloc (by simp; omega) _).alloc (by simp; omega) _
        have ho := World.ownsRow_lit (base := 0) (e := 24) (size := 3) (((w.alloc (.cells #[.int .i64 1, .int .i64 0, .slice a n c] 24)).alloc (.cells #[.int .i64 2, .int .i64 1000, .slice none 0 0] 24)).alloc (.cells #[.int .i64 4, .int .i64 0, .slice none 0 0] 24)) #[.int .i64 1, .int .i64 0, .slice a n c, .int .i64 1, .int .i64 0, .slice a n c, .int .i64 4, .int .i64 0, .slice none 0 0, .int .i64 2, .int .i64 1000, .slice none 0 0, .int .i64 1, .int .i64 0, .slice a n c, .int .i64 4, .int .i64 0, .slice none 0 0, .int .i64 2, .int .i64 1000, .slice none 0 0] 7 (Nat.zero_le _) (by unfold maxLen; omega) rfl
        rw [show (((w.alloc (.cells #[.int .i64 1, .int .i64 0, .slice a n c] 24)).alloc (.cells #[.int .i64 2, .int .i64 1000, .slice none 0 0] 24)).alloc (.cells #[.int .i64 4, .int .i64 0, .slice none 0 0] 24)).heap.size = w.heap.size + 1 + 1 + 1 by simp] at ho
        have hr := Rw.of_owns (rows := onceR (.slice a n c)) (once_rows _) (by decide) ho
        obtain ⟨w1, hw1⟩ : ∃ w1, ((((w.alloc (.cells #[.int .i64 1, .int .i64 0, .slice a n c] 24)).alloc (.cells #[.int .i64 2, .int .i64 1000, .slice none 0 0] 24)).alloc (.cells #[.int .i64 4, .int .i64 0, .slice none 0 0] 24)).alloc (.cells #[.int .i64 1, .int .i64 0, .slice a n c, .int .i64 1, .int .i64 0, .slice a n c, .int .i64 4, .int .i64 0, .slice none 0 0, .int .i64 2, .int .i64 1000, .slice none 0 0, .int .i64 1, .int .i64 0, .slice a n c, .int .i64 4, .int .i64 0, .slice none 0 0, .int .i64 2, .int .i64 1000, .slice none 0 0] 24)) = w1 := ⟨_, rfl⟩
        rw [hw1] at hW hr ⊢
        have HC := Lib.hid (pqrun_any a0 a1 a2 0 false (onceS l) (.slice (some ⟨w.heap.size + 1 + 1 + 1, 0, none⟩) 7 7) (onceR (.slice a n c)) w1 (HS.out.below (Nat.le_refl _) hW) hr (once_at w1 (.slice a n c) l (HRW.out.below rfl hW)) (once_ok l HL0.out HL40.out) (by show (7 : Nat) ≤ 100; omega) (by omega))
        have HW := Lib.hid hW
        clear hw1 hW ho hr
        refine HC.out.mono ?_
        rintro e w2 ⟨pa, ca, rows, T, σe, rfl, hown, hrl, hrn, hsaid, hruns, hb2⟩
        have HRS : Hid (Rw 4 w2 (.slice pa 7 ca) rows) := Lib.hid (Rw.of_owns hrl (by decide) hown)
        have HSA := Lib.hid hsaid
        have HT := Lib.hid (once_runs l HL0.out HL40.out hruns)
        have HB2 := Lib.hid (HW.out.trans (hb2.mono HW.out.size))
        have HP := Lib.hid (pqput_any [] l false (.slice none 0 0) (.slice a n c) w2 (Rw.nil 2 w2) (HRW.out.below rfl HB2.out) (by have := HL40.out; simp; omega))
        clear hown hrl hrn hsaid hruns hb2
        rw [show (onceS l).length = 7 from rfl]
        go_wp2_with fail
        refine HP.out.mono ?_
        rintro e w3 ⟨pb, cb, rfl, hrw3, hb3⟩
        have hsm := HRS.out.some
        obtain ⟨bp, po, rfl⟩ := hsm.2.2.2 (by omega)
        have hca : 7 ≤ ca := hsm.2.1
        have hpl : (putAll false [] l).length ≤ 40 := by have := putAll_len2 false [] l; have h2 := HL40.out; simp only [List.length_nil] at this; omega
        obtain ⟨t0, t1, t2, t3, t4, t5, t6, hTE, n2, k3, l3, z3, n5, k6, l6, z6⟩ := HT.out
        obtain ⟨PL, hPL⟩ : ∃ PL, (putAll false [] l).length = PL := ⟨_, rfl⟩
        rw [hPL] at n2 n5 l3 l6 hpl hrw3 ⊢
        have HPLE := Lib.hid hPL
        have HTE := Lib.hid hTE
        have HRW3 := Lib.hid hrw3
        have HB3 := Lib.hid hb3
        clear hrw3 hb3 hsm hTE hPL
        have N2 := Lib.hid n2
        have N5 := Lib.hid n5
        have K3 := Lib.hid k3
        have K6 := Lib.hid k6
        have L3 := Lib.hid l3
        have L6 := Lib.hid l6
        have Z3 := Lib.hid z3
        have Z6 := Lib.hid z6
        clear n2 n5 k3 k6 l3 l6 z3 z6
        go_wp2_with fail
        have hq := Blk.new w3 3 #[.int .i64 3, .int .i64 6]
        have hbq : Below w3.heap.size w3 (w3.alloc (.cells #[.int .i64 3, .int .i64 6] 3)) := (Below.refl _ _).alloc (Nat.le_refl _) _
        obtain ⟨w4, hw4⟩ : ∃ w4, w3.alloc (.cells #[.int .i64 3, .int .i64 6] 3) = w4 := ⟨_, rfl⟩
        rw [hw4] at hq hbq ⊢
        obtain ⟨q, hqe⟩ : ∃ q, w3.heap.size = q := ⟨_, rfl⟩
        have HBQ := Lib.hid hbq
        rw [hqe] at hq ⊢
        have HQ := Lib.hid hq
        clear hw4 hq hbq hqe
        go_loopg [43] 2 (fun k idx wr => ∃ j : Nat, idx = .int .i64 (j : Int) ∧ j + k = 2 ∧ Below w4.heap.size w4 wr)
        case atStart => exact ⟨0, rfl, by omega, Below.refl _ _⟩
        case round =>
          obtain ⟨j, rfl, hjk, hbel⟩ := hrel
          have HB2X : Hid (Below w2.heap.size w2 wr) := Lib.hid ((HB3.out.trans (HBQ.out.mono HB3.out.size)).trans (hbel.mono (Nat.le_trans HB3.out.size HBQ.out.size)))
          have hcase : j = 0 ∨ j = 1 ∨ j = 2 := by omega
          rcases hcase with rfl | rfl | rfl
          · obtain ⟨tx, ax, cx, hTx, c0, _, _, c3, hrx⟩ := said_cells HRS.out HSA.out 3 (by omega)
            obtain ⟨ty, _, _, hTy, _, c1, _, _, _⟩ := said_cells HRS.out HSA.out 2 (by omega)
            rw [HTE.out] at hTx hTy
            simp at hTx hTy
            subst hTx; subst hTy
            have hrx2 := hrx.below rfl HB2X.out
            have hrw2 := HRW3.out.below rfl (HBQ.out.trans (hbel.mono HBQ.out.size))
            have HTK := Lib.hid (pqtaken_any (putAll false [] l) t3.1 1000 (.slice pb PL cb) (.slice ax t3.1.length cx) wr hrw2 hrx2 K3.out (by rw [L3.out, HPLE.out]; show PL = min 1000 PL; omega) (by omega) (by omega) (by rw [HPLE.out]; omega))
            have he : (eraseAll (putAll false [] l) t3.1).length = 0 := by have h1 := takesB_len _ _ K3.out; have h2 := L3.out; have h3 := HPLE.out; omega
            replace c0 := (HB2X.out.cell (World.block_lt_of_cell? w2 _ c0)).trans c0
            replace c1 := (HB2X.out.cell (World.block_lt_of_cell? w2 _ c1)).trans c1
            replace c3 := (HB2X.out.cell (World.block_lt_of_cell? w2 _ c3)).trans c3
            rw [N2.out] at c1
            rw [Z3.out] at c3
            have d0 : wr.cell? ⟨bp, po + 12, none⟩ = some (.slice ax t3.1.length cx) := c0
            have d1 : wr.cell? ⟨bp, po + 9, none⟩ = some (.int .i64 (PL : Int)) := c1
            have d3 : wr.cell? ⟨bp, po + 15, none⟩ = some (.int .i64 0) := c3
            have z0 : wr.cell? ⟨q, 0, none⟩ = some (.int .i64 3) := (hbel.cell (p := ⟨q, 0, none⟩) HQ.out.lt).trans (HQ.out.cell 0 rfl)
            have HE := Lib.hid he
            have HPL9 := Lib.hid hpl
            have HBE := Lib.hid hbel
            clear c0 c1 c3 hrx hrx2 hrw2 he hbel
            cases gk with
            | zero => omega
            | succ k =>
              go_wp2_with fail
              refine HTK.out.mono ?_
              rintro e wy ⟨pc, cc, rfl, hrl, hby⟩
              rw [HE.out]
              replace d1 := (hby.cell (World.block_lt_of_cell? wr _ d1)).trans d1
              replace d3 := (hby.cell (World.block_lt_of_cell? wr _ d3)).trans d3
              have hPP : ((PL : Int) != (PL : Int)) = false := by simp
              have HBY := Lib.hid (HBE.out.trans (hby.mono HBE.out.size))
              clear hrl hby d0 z0
              go_wp2_with fail
              go_roundg k
              case measure => omega
              case rel => exact ⟨0+1, by go_num, by omega, HBY.out⟩
          · obtain ⟨tx, ax, cx, hTx, c0, _, _, c3, hrx⟩ := said_cells HRS.out HSA.out 6 (by omega)
            obtain ⟨ty, _, _, hTy, _, c1, _, _, _⟩ := said_cells HRS.out HSA.out 5 (by omega)
            rw [HTE.out] at hTx hTy
            simp at hTx hTy
            subst hTx; subst hTy
            have hrx2 := hrx.below rfl HB2X.out
            have hrw2 := HRW3.out.below rfl (HBQ.out.trans (hbel.mono HBQ.out.size))
            have HTK := Lib.hid (pqtaken_any (putAll false [] l) t6.1 1000 (.slice pb PL cb) (.slice ax t6.1.length cx) wr hrw2 hrx2 K6.out (by rw [L6.out, HPLE.out]; show PL = min 1000 PL; omega) (by omega) (by omega) (by rw [HPLE.out]; omega))
            have he : (eraseAll (putAll false [] l) t6.1).length = 0 := by have h1 := takesB_len _ _ K6.out; have h2 := L6.out; have h3 := HPLE.out; omega
            replace c0 := (HB2X.out.cell (World.block_lt_of_cell? w2 _ c0)).trans c0
            replace c1 := (HB2X.out.cell (World.block_lt_of_cell? w2 _ c1)).trans c1
            replace c3 := (HB2X.out.cell (World.block_lt_of_cell? w2 _ c3)).trans c3
            rw [N5.out] at c1
            rw [Z6.out] at c3
            have d0 : wr.cell? ⟨bp, po + 24, none⟩ = some (.slice ax t6.1.length cx) := c0
            have d1 : wr.cell? ⟨bp, po + 21, none⟩ = some (.int .i64 (PL : Int)) := c1
            have d3 : wr.cell? ⟨bp, po + 27, none⟩ = some (.int .i64 0) := c3
            have z0 : wr.cell? ⟨q, 1, none⟩ = some (.int .i64 6) := (hbel.cell (p := ⟨q, 1, none⟩) HQ.out.lt).trans (HQ.out.cell 1 rfl)
            have HE := Lib.hid he
            have HPL9 := Lib.hid hpl
            have HBE := Lib.hid hbel
            clear c0 c1 c3 hrx hrx2 hrw2 he hbel
            cases gk with
            | zero => omega
            | succ k =>
              go_wp2_with fail
              refine HTK.out.mono ?_
              rintro e wy ⟨pc, cc, rfl, hrl, hby⟩
              rw [HE.out]
              replace d1 := (hby.cell (World.block_lt_of_cell? wr _ d1)).trans d1
              replace d3 := (hby.cell (World.block_lt_of_cell? wr _ d3)).trans d3
              have hPP : ((PL : Int) != (PL : Int)) = false := by simp
              have HBY := Lib.hid (HBE.out.trans (hby.mono HBE.out.size))
              clear hrl hby d0 z0
              go_wp2_with fail
              go_roundg k
              case measure => omega
              case rel => exact ⟨1+1, by go_num, by omega, HBY.out⟩
          · go_wp2_with fail
            go_ret
            exact ⟨rfl, HB2.out.trans (HB2X.out.mono HB2.out.size)⟩
end Go.Proofs.YtepjailijekepaaDoor
