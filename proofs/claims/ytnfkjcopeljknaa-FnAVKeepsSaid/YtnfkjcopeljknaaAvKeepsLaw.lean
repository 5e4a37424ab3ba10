/- FnAVKeeps: what was inserted later changes no tree. -/
import Derived.Test.YtnfkjcopeljknaaAvHas
import Derived.Test.YtnfkjcopeljknaaAvKeep
import Derived.Test.YtnfkjcopeljknaaAvEq
import Derived.Test.YtnfkjcopeljknaaAvSaid
import Derived.Test.YtnfkjcopeljknaaAvStepS
import Derived.Test.YtnfkjcopeljknaaAvTrees
import Derived.Deep.RegionHeld3
namespace Go.Proofs.Ytnfkjcopeljknaa
set_option linter.unusedVariables false
open Go.RowKit Avm

/-! plain: the trees as sorted lists, and as lists in the order of insertion -/
theorem look_perm {a b : Lst} (h : a.Perm b) (hs : Srt b) (k : Int) : look a k = look b k := by
  unfold look
  cases ha : a.find? (fun x => x.1 == k) with
  | none =>
    rw [List.find?_eq_none] at ha
    rw [List.find?_eq_none.2 fun x hx => ha x (h.mem_iff.2 hx)]
  | some x =>
    have h1 := List.find?_some ha
    have h2 := List.mem_of_find?_eq_some ha
    cases hb : b.find? (fun x => x.1 == k) with
    | none =>
      rw [List.find?_eq_none] at hb
      exact absurd h1 (hb x (h.mem_iff.1 h2))
    | some y =>
      have h3 := List.find?_some hb
      have h4 := List.mem_of_find?_eq_some hb
      have h5 : x = y := by
        have hx := h.mem_iff.1 h2
        simp only [beq_iff_eq] at h1 h3
        have := List.pairwise_iff_getElem.1 hs
        obtain ⟨i, hi, rfl⟩ := List.getElem_of_mem hx
        obtain ⟨j, hj, rfl⟩ := List.getElem_of_mem h4
        rcases Nat.lt_trichotomy i j with h6 | h6 | h6
        · have := this i j hi hj h6; omega
        · subst h6; rfl
        · have := this j i hj hi h6; omega
      rw [h5]
theorem putS_perm {a b : Lst} (h : a.Perm b) (e : Int × Int) : (putS a e).Perm (insS b e.1 e.2) := by
  have h1 : (delS a e.1).Perm (delS b e.1) := h.filter _
  have h2 : (delS b e.1).Perm (b.filter (fun x => decide (x.1 < e.1)) ++ b.filter (fun x => decide (e.1 < x.1))) := by
    clear h h1
    induction b with
    | nil => exact List.Perm.refl _
    | cons x b ih =>
      unfold delS at ih ⊢
      rcases Int.lt_trichotomy x.1 e.1 with h | h | h
      · have d1 : decide (x.1 ≠ e.1) = true := by simp; omega
        have d2 : decide (x.1 < e.1) = true := by simpa using h
        have d3 : decide (e.1 < x.1) = false := by simp; omega
        rw [List.filter_cons, List.filter_cons, List.filter_cons, d1, d2, d3]
        simpa using ih.cons x
      · have d1 : decide (x.1 ≠ e.1) = false := by simpa using h
        have d2 : decide (x.1 < e.1) = false := by simp; omega
        have d3 : decide (e.1 < x.1) = false := by simp; omega
        rw [List.filter_cons, List.filter_cons, List.filter_cons, d1, d2, d3]
        simpa using ih
      · have d1 : decide (x.1 ≠ e.1) = true := by simp; omega
        have d2 : decide (x.1 < e.1) = false := by simp; omega
        have d3 : decide (e.1 < x.1) = true := by simpa using h
        rw [List.filter_cons, List.filter_cons, List.filter_cons, d1, d2, d3]
        simp only [if_true, Bool.false_eq_true, if_false]
        exact (ih.cons x).trans List.perm_middle.symm
  unfold putS insS
  refine ((h1.trans h2).append_right [e]).trans ?_
  rw [List.append_assoc]
  refine List.Perm.append_left _ ?_
  exact (List.perm_append_comm (l₁ := b.filter fun x => decide (e.1 < x.1)) (l₂ := [e])).trans (List.Perm.refl _)
/-- two lists of the same entries, the second one sorted -/
def Twin (a b : Lst) : Prop := a.Perm b ∧ Srt b
theorem Twin.put {a b : Lst} (h : Twin a b) (e : Int × Int) : Twin (putS a e) (insS b e.1 e.2) := ⟨putS_perm h.1 e, insS_srt h.2 _ _⟩
theorem Twin.puts {es : Lst} : ∀ {a b : Lst}, Twin a b → Twin (stepL 1 a es) (insAll b es) := by
  induction es with
  | nil => intro a b h; exact h
  | cons e es ih => intro a b h; exact ih (h.put e)
theorem Twin.look {a b : Lst} (h : Twin a b) (k : Int) : look a k = look b k := look_perm h.1 h.2 k
theorem Twin.len {a b : Lst} (h : Twin a b) : a.length = b.length := h.1.length_eq

/-- a script without a Delete, as steps -/
def toStp (s : RStp) : AStp := ⟨s.1.toNat, s.2.1.toNat, s.2.2⟩
def Twins (A B : List Lst) : Prop := A.length = B.length ∧ ∀ (i : Nat) (a b : Lst), A[i]? = some a → B[i]? = some b → Twin a b
theorem Twins.snoc {A B : List Lst} (h : Twins A B) {a b : Lst} (h1 : Twin a b) : Twins (A ++ [a]) (B ++ [b]) := by
  refine ⟨by simp [h.1], fun i x y hx hy => ?_⟩
  by_cases hi : i < A.length
  · rw [List.getElem?_append_left hi] at hx
    rw [List.getElem?_append_left (by rw [← h.1]; exact hi)] at hy
    exact h.2 i x y hx hy
  · have hl := (List.getElem?_eq_some_iff.1 hx).1
    simp at hl
    have hi2 : i = A.length := by omega
    subst hi2
    rw [List.getElem?_append_right (Nat.le_refl _), Nat.sub_self] at hx
    rw [h.1, List.getElem?_append_right (Nat.le_refl _), Nat.sub_self] at hy
    simp at hx hy
    subst hx hy
    exact h1
theorem insAll_le (es : Lst) (l : Lst) : (insAll l es).length ≤ l.length + es.length := insAll_len l es
/-- the tree's own run beside the specification's -/
theorem runs_twin (S : List AStp) : ∀ (A B : List Lst) (k : Nat), Twins A B → 0 < A.length → A.length + S.length ≤ 500 → k + 100 * S.length ≤ 90000 → (∀ L ∈ A, L.length ≤ k) → (∀ s ∈ S, (s.op = 1 ∨ s.op = 3) ∧ 0 < s.es.length ∧ s.es.length ≤ 100) →
    ∃ U B', ARuns (B.map some) S U (B'.map some) ∧ Twins (sTrees A S) B' := by
  induction S with
  | nil => intro A B k h _ _ _ _ _; exact ⟨[], B, .nil _, h⟩
  | cons s S ih =>
    intro A B k h h0 h1 hk hA hS
    simp only [List.length_cons] at h1 hk
    obtain ⟨hop, he0, he1⟩ := hS s (by simp)
    have hS' : ∀ s ∈ S, (s.op = 1 ∨ s.op = 3) ∧ 0 < s.es.length ∧ s.es.length ≤ 100 := fun s hs => hS s (List.mem_cons_of_mem _ hs)
    have hlt : s.frm % A.length < A.length := Nat.mod_lt _ h0
    obtain ⟨a, ha⟩ : ∃ a, A[s.frm % A.length]? = some a := ⟨_, List.getElem?_eq_getElem hlt⟩
    obtain ⟨b, hb⟩ : ∃ b, B[s.frm % A.length]? = some b := ⟨_, List.getElem?_eq_getElem (by rw [← h.1]; exact hlt)⟩
    have ht := h.2 _ a b ha hb
    have hal := hA a (List.mem_of_getElem? ha)
    have hbl : b.length ≤ k := by rw [← ht.len]; exact hal
    have hb2 : (B.map some)[s.frm % (B.map some).length]? = some (some b) := by
      rw [List.length_map, ← h.1, List.getElem?_map, hb]; rfl
    have hag : A.getD (s.frm % A.length) [] = a := by rw [List.getD_eq_getElem?_getD, ha]; rfl
    rcases hop with hop | hop
    · have e1 : sStep A s = A ++ [stepL 1 a s.es] := by
        unfold sStep
        rw [if_neg (by omega), hag, hop]
      have htw := h.snoc (ht.puts (es := s.es))
      obtain ⟨U, B', h2, h3⟩ := ih (A ++ [stepL 1 a s.es]) (B ++ [insAll b s.es]) (k + 100) htw (by simp) (by simp; omega) (by omega) (fun L hL => by
        rcases List.mem_append.1 hL with hL | hL
        · have := hA L hL; omega
        · rw [List.mem_singleton.1 hL]
          have := stepL_len 1 s.es a
          omega) hS'
      refine ⟨⟨(insAll b s.es).length, insOs b s.es⟩ :: U, B', .cons (by rw [List.length_map, ← h.1]; omega) ⟨b, hb2, by omega, he0, he1, .inl ⟨hop, rfl, rfl⟩⟩ ?_, ?_⟩
      · rw [List.map_append] at h2; exact h2
      · show Twins (sTrees (sStep A s) S) B'
        rw [e1]; exact h3
    · have e1 : sStep A s = A := if_pos hop
      obtain ⟨U, B', h2, h3⟩ := ih A B k h h0 (by omega) (by omega) hA hS'
      refine ⟨⟨b.length, getOs b s.es⟩ :: U, B', .cons (by rw [List.length_map, ← h.1]; omega) ⟨b, hb2, by omega, he0, he1, .inr (.inr ⟨hop, rfl, rfl⟩)⟩ h2, ?_⟩
      show Twins (sTrees (sStep A s) S) B'
      rw [e1]; exact h3
theorem rsteps_steps {w : World} {R : List (List Value)} {S : List RStp} (h : RStepsAt w R S) (hok : FewOk S) : AStepsAt w R (S.map toStp) := by
  refine ⟨by rw [List.length_map]; exact h.1, fun i row s hr hs => ?_⟩
  rw [List.getElem?_map] at hs
  cases hq : S[i]? with
  | none => rw [hq] at hs; cases hs
  | some x =>
    rw [hq] at hs
    simp at hs
    subst hs
    obtain ⟨v, e, hv⟩ := h.2 i row x hr hq
    obtain ⟨h1, h2, h3, h4, h5⟩ := hok.2 x (List.mem_of_getElem? hq)
    refine ⟨v, ?_, hv⟩
    rw [e]
    show [Value.int .i64 x.1, .int .i64 x.2.1, v] = [.int .i64 ((x.1.toNat : Nat) : Int), .int .i64 ((x.2.1.toNat : Nat) : Int), v]
    rw [Int.toNat_of_nonneg (by omega), Int.toNat_of_nonneg h3]

theorem osK_three (l es : Lst) : osK 3 l es es.length = getOs l es := by
  unfold osK getOs
  exact List.map_congr_left fun q _ => by rw [stepL_three]
theorem getOs_twin {a b : Lst} (h : Twin a b) (es : Lst) : getOs a es = getOs b es := by
  unfold getOs
  exact List.map_congr_left fun q _ => by rw [h.look]
def KAsk (ks : List Int) (n B A : Nat) (w1 : World) (k : Nat) (idx : Value) (wr : World) : Prop :=
  ∃ (j : Nat) (q : Option Addr) (c : Nat), idx = .int .i64 (j : Int) ∧ j + k = n ∧ Blk wr A 32 #[.int .i64 3, .int .i64 0, .slice q j c] ∧ wr.ownsRow B 25 2 (.slice q j c) j (aes (ask0 (ks.take j))).flatten ∧ Below B w1 wr
def KCmp (n : Nat) (w1 : World) (k : Nat) (idx : Value) (wr : World) : Prop := ∃ (j : Nat), idx = .int .i64 (j : Int) ∧ j + k = n ∧ Below w1.heap.size w1 wr

set_option maxRecDepth 100000 in
set_option maxHeartbeats 8000000 in
theorem law_avkeeps (v0 v1 : Value) (w : World) (w0 : AnyAv w v0) (w1 : IsInts .i64 w v1) :
    Calls Try.prog 4 #[v0, v1] w fun e w' => e = .returned (.bool true) ∧ Below w.heap.size w w' := by
  obtain ⟨R, S, hv, hst⟩ := w0
  obtain ⟨ks, hk, _⟩ := w1
  have HFIT := Lib.hid (fits1_any v0 R S w hv hst)
  have HV := Lib.hid hv
  have HST := Lib.hid hst
  have HK := Lib.hid hk
  obtain ⟨a0, n, c0, rfl, hla, -⟩ := hv
  obtain ⟨a1, m, c1, rfl, hlk, hck, hmk, hrk⟩ := hk
  rw [List.length_map] at hlk
  have HRK := Lib.hid hrk
  have HKL := Lib.hid hlk
  have hmm : m ≤ maxLen := by omega
  unfold maxLen at hmm
  have HNS := Lib.hid (show S.length = n by rw [← hst.1, hla])
  clear hst hla hlk hck hmk hrk
  go_enter Try.func4, Try.ntmps4
  go_wp2_with fail
  refine HFIT.out.mono ?_
  rintro e w2 ⟨b, rfl, hb, hb2⟩
  have HB2 := Lib.hid hb2
  have HFN := Lib.hid hb
  clear hb hb2 HFIT
  cases b with
  | false =>
    go_wp2_with fail
    go_ret
    exact ⟨rfl, HB2.out⟩
  | true =>
    have hSn := HFN.out rfl
    have HSN := Lib.hid hSn
    by_cases h1 : (2147483647 : Int) < (m : Int)
    · have d1 : decide ((2147483647 : Int) < (m : Int)) = true := by simpa using h1
      clear h1 hSn
      go_wp2_with fail
      go_ret
      exact ⟨rfl, HB2.out⟩
    · have d1 : decide ((2147483647 : Int) < (m : Int)) = false := by simpa using h1
      have HST2 : Hid (RStepsAt w2 R S) := Lib.hid (RStepsAt.below HST.out HB2.out)
      have HV2 : Hid (Rw 3 w2 (.slice a0 n c0) R) := Lib.hid (HV.out.below rfl HB2.out)
      have HCON := Lib.hid (containsdel_any (.slice a0 n c0) _ rfl R S w2 HV2.out HST2.out hSn)
      clear h1 hSn
      go_wp2_with fail
      refine HCON.out.mono ?_
      rintro e w3 ⟨gone, rfl, hg, hb3⟩
      have HGO := Lib.hid hg
      have HB3 := Lib.hid (HB2.out.trans (hb3.mono HB2.out.size))
      have HST3 := Lib.hid (HST2.out.below hb3)
      have HV3 := Lib.hid (HV2.out.below rfl hb3)
      clear hg hb3 HCON
      go_wp2_with fail
      refine (avfew_any (.slice a0 n c0) R S w3 HV3.out HST3.out HSN.out).mono ?_
      rintro e w4 ⟨few, rfl, hf, hb4⟩
      have HFEW := Lib.hid hf
      have HB4 := Lib.hid (HB3.out.trans (hb4.mono HB3.out.size))
      have HST4 := Lib.hid (HST3.out.below hb4)
      have HV4 := Lib.hid (HV3.out.below rfl hb4)
      clear hf hb4
      cases few with
      | false =>
        go_wp2_with fail
        go_ret
        exact ⟨rfl, HB4.out⟩
      | true =>
        cases gone with
        | true =>
          go_wp2_with fail
          go_ret
          exact ⟨rfl, HB4.out⟩
        | false =>
          by_cases h0 : m = 0
          · subst h0
            go_wp2_with fail
            go_ret
            exact ⟨rfl, HB4.out⟩
          · have e0 : ((m : Int) == 0) = false := by rw [beq_eq_false_iff_ne]; omega
            by_cases h30 : (30 : Int) < (m : Int)
            · have d30 : decide ((30 : Int) < (m : Int)) = true := by simpa using h30
              clear h30 h0
              go_wp2_with fail
              go_ret
              exact ⟨rfl, HB4.out⟩
            · have d30 : decide ((30 : Int) < (m : Int)) = false := by simpa using h30
              have hok := HFEW.out rfl
              have hnod := HGO.out rfl
              have hast := rsteps_steps HST4.out hok
              have hsok : ∀ s ∈ S.map toStp, (s.op = 1 ∨ s.op = 3) ∧ 0 < s.es.length ∧ s.es.length ≤ 100 := by
                intro s hs
                obtain ⟨x, hx, rfl⟩ := List.mem_map.1 hs
                have h1 := hok.2 x hx
                have h2 := hnod x hx
                refine ⟨?_, ?_, ?_⟩
                · show x.1.toNat = 1 ∨ x.1.toNat = 3
                  omega
                · show 0 < x.2.2.length
                  omega
                · show x.2.2.length ≤ 100
                  omega
              have hlS : (S.map toStp).length ≤ 30 := by rw [List.length_map]; exact hok.1
              obtain ⟨U, LL, hrun, htw⟩ := runs_twin (S.map toStp) [[]] [[]] 0 ⟨rfl, fun i a b ha hb => by
                cases i with
                | zero => simp at ha hb; subst ha hb; exact ⟨List.Perm.refl _, List.Pairwise.nil⟩
                | succ i => simp at ha⟩ (by simp) (by simp only [List.length_cons, List.length_nil]; omega) (by omega) (fun L hL => by rw [List.mem_singleton.1 hL]; exact Nat.le_refl _) hsok
              have hbig := sTrees_big (S.map toStp) [[]] 0 (fun s hs => (hsok s hs).2.2) (fun L hL => by rw [List.mem_singleton.1 hL]; exact Nat.le_refl _)
              have hlen := sTrees_len (S.map toStp) [[]]
              have hLLb : ∀ L ∈ LL, L.length ≤ 100000 := by
                intro L hL
                obtain ⟨i, hi, rfl⟩ := List.getElem_of_mem hL
                have h1 : i < (sTrees [[]] (S.map toStp)).length := by rw [htw.1]; exact hi
                have h2 := htw.2 i _ _ (List.getElem?_eq_getElem h1) (List.getElem?_eq_getElem hi)
                rw [← h2.len]
                have := hbig _ (List.getElem_mem h1)
                omega
              have hLLl : LL.length ≤ 1000 := by rw [← htw.1]; simp only [List.length_cons, List.length_nil] at hlen; omega
              have hkn : ks.length ≤ 100 := by rw [HKL.out]; omega
              have hkeep := avkeep_any (S.map toStp) U LL (.slice a0 n c0) (.slice a1 m c1) ks R w4 HV4.out hast hrun (by omega) (fun ⟨s, hs, h⟩ => absurd h (by have := (hsok s hs).1; omega)) avsaid_any (HK.out.below rfl HB4.out) hkn hLLb hLLl
              have HKEEP := Lib.hid hkeep
              have HAST := Lib.hid hast
              have HTW := Lib.hid htw
              have HSOK := Lib.hid hsok
              have HLS := Lib.hid hlS
              have HBIG := Lib.hid hbig
              have HLLL := Lib.hid hLLl
              clear hok hnod hast hsok hlS hrun htw hbig hlen hLLb hLLl hkn hkeep h30 h0
              go_wp2_with fail
              refine HKEEP.out.mono ?_
              rintro e w5 ⟨qo, co, rows, rfl, h51, h52, h53, h54, hb5⟩
              have H51 := Lib.hid h51
              have H52 := Lib.hid h52
              have H53 := Lib.hid h53
              have H54 := Lib.hid h54
              have HB5 := Lib.hid (HB4.out.trans (hb5.mono HB4.out.size))
              have HAST5 : Hid (AStepsAt w5 R (S.map toStp)) := Lib.hid ⟨HAST.out.1, fun i row s hi hs => by obtain ⟨v, e1, e2⟩ := HAST.out.2 i row s hi hs; exact ⟨v, e1, e2.below rfl hb5⟩⟩
              have HV5 := Lib.hid (HV4.out.below rfl hb5)
              clear h51 h52 h53 h54 hb5 HKEEP
              obtain ⟨M, hM⟩ : ∃ M, LL.length = M := ⟨_, rfl⟩
              have HMM := Lib.hid hM
              rw [hM] at H51 H53 HLLL ⊢
              clear hM
              have htr := avtrees_any (S.map toStp) (.slice a0 n c0) R w5 HV5.out HAST5.out (by have := HLS.out; omega) (fun s hs => by have := HSOK.out s hs; omega) avstep_any
              rw [show (sTrees [[]] (S.map toStp)).length = M by rw [HTW.out.1, HMM.out]] at htr
              have HTREE := Lib.hid htr
              clear htr
              go_wp2_with fail
              refine HTREE.out.mono ?_
              rintro e w6 ⟨qa, ca, u, vs, rfl, h61, h62, hb6⟩
              have hu : u = u := rfl
              have H61 := Lib.hid h61
              have H62 := Lib.hid h62
              have H51b := Lib.hid ((Fr.of_below [] hb6).own H51.out (fun _ _ h => by cases h))
              have H54b := Lib.hid (H54.out.below hb6)
              have HB6 := Lib.hid (HB5.out.trans (hb6.mono HB5.out.size))
              clear h61 h62 hb6 HTREE hu
              go_wp2_with fail
              have kA := Blk.new w6 32 #[.int .i64 3, .int .i64 0, .slice none 0 0]
              have hal : Below w6.heap.size w6 (w6.alloc (.cells #[.int .i64 3, .int .i64 0, .slice none 0 0] 32)) := (Below.refl _ _).alloc (Nat.le_refl _) _
              have HKA := Lib.hid kA
              have HAL := Lib.hid hal
              obtain ⟨A, hA⟩ : ∃ A, w6.heap.size = A := ⟨_, rfl⟩
              rw [hA] at HKA HAL ⊢
              have HA := Lib.hid hA
              have HKN := Lib.hid (show m ≤ 30 by simp at d30; omega)
              clear kA hal hA hmm e0 d30 d1
              go_loopg [11, 58] m (fun k s11 idx wr => KAsk ks m A A w6 k idx wr)
              case atStart => exact ⟨0, none, 0, rfl, by omega, HKA.out, World.ownsRow_nil _ _ _ _, HAL.out⟩
              case round =>
                obtain ⟨j, q, c, rfl, hjk, hka, hown, hbel⟩ := hrel
                have HO := Lib.hid hown
                have HB := Lib.hid hbel
                have HKA2 := Lib.hid hka
                have hsz : A ≤ wr.heap.size := by rw [← HA.out]; exact hbel.size
                have hml := HKN.out
                by_cases hj : j < m
                · obtain ⟨b, off, rfl, hcell⟩ := HRK.out (by omega)
                  have hjl : j < ks.length := by rw [HKL.out]; exact hj
                  have hce := hcell j (.int .i64 (ks.getD j 0)) (by simp [List.getD_eq_getElem?_getD, hjl])
                  rw [← HB6.out.cell (World.block_lt_of_cell? w _ hce)] at hce
                  rw [← HB.out.cell (by rw [← HA.out]; exact World.block_lt_of_cell? w6 _ hce)] at hce
                  have hsn : aes (ask0 (ks.take (j + 1))) = aes (ask0 (ks.take j)) ++ [[.int .i64 (ks.getD j 0), .int .i64 0]] := by
                    rw [List.take_succ_eq_append_getElem hjl]
                    unfold ask0 aes
                    rw [List.map_append, List.map_append, List.getD_eq_getElem?_getD, List.getElem?_eq_getElem hjl]
                    rfl
                  obtain ⟨k0, hk0⟩ : ∃ x, ks.getD j 0 = x := ⟨_, rfl⟩
                  rw [hk0] at hce hsn
                  have HSN2 := Lib.hid hsn
                  have i1 : (j : Int) < (m : Int) := by omega
                  have i2 : (0 : Int) ≤ (j : Int) := by omega
                  have a2 := hka.cell 2 rfl
                  have hAl := hka.lt
                  have hone : ∀ u ∈ (#[.int .i64 k0, .int .i64 0] : Array Value).toList, u.oneCell' = true := by
                    intro u hu
                    simp at hu
                    rcases hu with rfl | rfl <;> rfl
                  have HON := Lib.hid hone
                  clear hcell hk0 hsn hone hjl hown hbel hka
                  cases gk with
                  | zero => omega
                  | succ k =>
                    go_wp2_with (at_builtin; refine wpList_appendS rfl _ _ 22 rfl A 2 25 (.agg #[.int .i64 0, .int .i64 0]) 16 Try.underlying22 info_ave rfl (by decide) (.slice q j c) j (aes (ask0 (ks.take j))).flatten rfl HO.out #[.int .i64 k0, .int .i64 0] rfl rfl HON.out (by unfold maxLen; omega) (by omega) (by omega) ?_; intro g5 k5 w7 hown5 hg5 hb5; have HO5 := Lib.hid hown5; have HB7 := Lib.hid (HB.out.trans hb5); have HK7 := Lib.hid (Blk.grown HKA2.out hg5 (row_blk HO.out HKA2.out (by decide))); have a2' := HK7.out.cell 2 rfl; have af := HK7.out.free 2; have hs7 : A ≤ w7.heap.size := Nat.le_trans hsz hb5.size; clear hown5 hg5 hb5)
                    go_roundg k
                    case measure => omega
                    case rel =>
                      have k1 := Fr.store w7 (F := [A]) (a := ⟨A, 2, none⟩) (by simp) (.slice (some ⟨g5, 0, none⟩) (j + 1) k5)
                      have ho6 : w7.ownsRow A 25 2 (.slice (some ⟨g5, 0, none⟩) (j + 1) k5) (j + 1) (aes (ask0 (ks.take (j + 1)))).flatten := by
                        rw [HSN2.out, List.flatten_append]; simpa using HO5.out
                      refine ⟨j + 1, _, k5, by go_num, by omega, HK7.out.set 2 _, k1.own ho6 (fun k hk e => ?_), HB7.out.trans (k1.below (fun k hk => by rw [List.mem_singleton.1 hk]; exact Nat.le_refl _) hs7)⟩
                      rw [List.mem_singleton] at e
                      subst e
                      exact row_blk ho6 HK7.out (by decide) (mem_obl.1 hk)
                · obtain rfl : j = m := by omega
                  rw [List.take_of_length_le (by rw [HKL.out]; exact Nat.le_refl _)] at HO
                  have hask : Rw 2 wr (.slice q j c) (aes (ask0 ks)) := Rw.of_owns (aes_two _) (by decide) HO.out
                  have hb6r : Below w6.heap.size w6 wr := by rw [HA.out]; exact HB.out
                  have H61r := Lib.hid ((Fr.of_below [] hb6r).own H61.out (fun _ _ h => by cases h))
                  have H62r := Lib.hid (H62.out.below hb6r)
                  have H51r := Lib.hid ((Fr.of_below [] hb6r).own H51b.out (fun _ _ h => by cases h))
                  have H54r := Lib.hid (H54b.out.below hb6r)
                  have HBR := Lib.hid (HB6.out.trans (hb6r.mono HB6.out.size))
                  have HASK := Lib.hid hask
                  have hal2 : (ask0 ks).length = j := by simp [ask0, HKL.out]
                  have HALN := Lib.hid hal2
                  have HKQ := HKA2
                  clear hown hbel hka hask hb6r HO HB HKA HAL HA H61 H62 H51 H51b H54 H54b hal2 hml HRK
                  go_wp2_with fail
                  obtain ⟨wv, hwv⟩ : ∃ wv, wv = wr := ⟨_, rfl⟩
                  rw [← hwv] at H61r H62r H51r H54r HBR HASK HKQ ⊢
                  have HWV := Lib.hid hwv
                  clear hwv
                  go_loopg [12, 13, 14, 15, 72] M (fun k s12 s13 s14 s15 idx wq => KCmp M wv k idx wq)
                  case atStart => exact ⟨0, rfl, by omega, Below.refl _ _⟩
                  case round =>
                    obtain ⟨i, rfl, hik, hbel⟩ := hrel
                    have HB := Lib.hid hbel
                    have hszv := hbel.size
                    by_cases hi : i < M
                    · cases gk with
                      | zero => omega
                      | succ k =>
                        have hiT : i < (sTrees [[]] (S.map toStp)).length := by rw [HTW.out.1, HMM.out]; exact hi
                        have hiL : i < LL.length := by rw [HMM.out]; exact hi
                        have hiR : i < rows.length := by rw [H53.out]; exact hi
                        have hiV : i < vs.length := by rw [H62r.out.1]; exact hiT
                        obtain ⟨l, hl⟩ : ∃ l, (sTrees [[]] (S.map toStp))[i]? = some l := ⟨_, List.getElem?_eq_getElem hiT⟩
                        obtain ⟨L, hL⟩ : ∃ L, LL[i]? = some L := ⟨_, List.getElem?_eq_getElem hiL⟩
                        obtain ⟨row, hrow⟩ : ∃ row, rows[i]? = some row := ⟨_, List.getElem?_eq_getElem hiR⟩
                        obtain ⟨vi, hvi⟩ : ∃ vi, vs[i]? = some vi := ⟨_, List.getElem?_eq_getElem hiV⟩
                        have htwin := HTW.out.2 i l L hl hL
                        have hown := H62r.out.2 i vi l hvi hl
                        have hlb := HBIG.out l (List.mem_of_getElem? hl)
                        obtain ⟨q1, c1', q2, c2', hrw, hk1, hk2⟩ := H54r.out.2 i row (kept ks L) hrow (by rw [List.getElem?_map, hL]; rfl)
                        have hrd := Rw.of_owns (aes_two _) (by decide) hown
                        have hva : ∃ a n c, vi = .slice a n c := by obtain ⟨a, n, c, e, _⟩ := hrd; exact ⟨a, n, c, e⟩
                        obtain ⟨la, ln, lc, rfl⟩ := hva
                        have hrk := Rw.of_owns H52.out (by decide) H51r.out
                        obtain ⟨_, _, _, e4, -, -, -, hr4⟩ := Sl.of_owns H61r.out
                        injection e4 with e4 e5 e6
                        subst e4 e5 e6
                        obtain ⟨b4, o4, rfl, hcl4⟩ := hr4 (by omega)
                        have p4 := hcl4 i (.slice la ln lc) hvi
                        obtain ⟨_, _, _, e7, -, -, -, hr7⟩ := hrk
                        injection e7 with e7 e8 e9
                        subst e7 e8 e9
                        obtain ⟨b7, o7, rfl, hcl7⟩ := hr7 (by omega)
                        rw [hrw] at hrow
                        have y0 := hcl7 i _ hrow 0 _ rfl
                        have y1 := hcl7 i _ hrow 1 _ rfl
                        have y2 := hcl7 i _ hrow 2 _ rfl
                        have hkos : (kept ks L).os.length = j := by show (getOs L (ask0 ks)).length = j; rw [getOs_len, HALN.out]
                        rw [hkos] at hk1 hk2 y1 y2
                        have hkn : (kept ks L).n = l.length := htwin.len.symm
                        rw [hkn] at y0
                        have hko : (kept ks L).os = osK 3 l (ask0 ks) (ask0 ks).length := by rw [osK_three]; exact (getOs_twin htwin _).symm
                        rw [hko] at hk1 hk2
                        have z0 := Lib.hid ((HB.out.cell (World.block_lt_of_cell? wv _ y0)).trans y0)
                        have z1 := Lib.hid ((HB.out.cell (World.block_lt_of_cell? wv _ y1)).trans y1)
                        have z2 := Lib.hid ((HB.out.cell (World.block_lt_of_cell? wv _ y2)).trans y2)
                        have p4' := (HB.out.cell (World.block_lt_of_cell? wv _ p4)).trans p4
                        have hkA := (HKQ.out.next HB.out)
                        have g0 := hkA.cell 0 rfl
                        have g1 := hkA.cell 1 rfl
                        have g2 := hkA.cell 2 rfl
                        have hR1 := (Rw.of_owns (aes_two _) (by decide) hk1).below rfl HB.out
                        have hS1 := (Sl.of_owns hk2).below rfl HB.out
                        have hcall := avstep_any (.slice la ln lc) l (ask0 ks) 3 0 (.slice q j c) wr (hrd.below rfl HB.out) (HASK.out.below rfl HB.out) (by have := HALN.out; have := HKN.out; omega) (by have := HLS.out; omega) (by decide) (by decide)
                        rw [stepL_three, HALN.out] at hcall
                        rw [HALN.out] at hR1 hS1
                        obtain ⟨ol, hol⟩ : ∃ ol, osK 3 l (ask0 ks) j = ol := ⟨_, rfl⟩
                        rw [hol] at hcall hR1 hS1
                        have holl : ol.length = j := by rw [← hol]; simp [osK]
                        obtain ⟨ll, hll⟩ : ∃ ll, l.length = ll := ⟨_, rfl⟩
                        rw [hll] at hcall z0
                        have HCALL := Lib.hid hcall
                        have HR1 := Lib.hid hR1
                        have HS1 := Lib.hid hS1
                        have HOL := Lib.hid holl
                        have i1 : (i : Int) < (M : Int) := by omega
                        have i2 : (0 : Int) ≤ (i : Int) := by omega
                        clear hiT hiL hiR hiV hl hL hrow hvi htwin hown hlb hrw hk1 hk2 hrd hr4 hcl4 p4 hr7 hcl7 y0 y1 y2 hkos hkn hko hkA hR1 hS1 hcall hol holl hll hbel
                        go_wp2_with fail
                        refine (HCALL.out).mono ?_
                        rintro e w7 ⟨v', p1, d1, p2, d2, rfl, hr7, -, ho7, ho8, hb7⟩
                        obtain ⟨u1, u2, u3, rfl⟩ := rw_slice hr7
                        have hal7 : Below w7.heap.size w7 (w7.alloc (.cells #[.int .i64 (ll : Int), .slice p1 j d1, .slice p2 j d2] 36)) := (Below.refl _ _).alloc (Nat.le_refl _) _
                        have kT := Blk.new w7 36 #[.int .i64 (ll : Int), .slice p1 j d1, .slice p2 j d2]
                        have hb8 : Below wr.heap.size wr (w7.alloc (.cells #[.int .i64 (ll : Int), .slice p1 j d1, .slice p2 j d2] 36)) := hb7.trans (hal7.mono hb7.size)
                        have hr1 := HR1.out.below rfl hb8
                        have hs1 := HS1.out.below rfl hb8
                        have hr2 := (Rw.of_owns (aes_two _) (by decide) ho7).below rfl hal7
                        have hs2 := (Sl.of_owns ho8).below rfl hal7
                        have x0 := (hb8.cell (World.block_lt_of_cell? wr _ z0.out)).trans z0.out
                        have x1 := (hb8.cell (World.block_lt_of_cell? wr _ z1.out)).trans z1.out
                        have x2 := (hb8.cell (World.block_lt_of_cell? wr _ z2.out)).trans z2.out
                        obtain ⟨T, hT⟩ : ∃ T, w7.heap.size = T := ⟨_, rfl⟩
                        obtain ⟨wt, hwt⟩ : ∃ wt, wt = w7.alloc (.cells #[.int .i64 (ll : Int), .slice p1 j d1, .slice p2 j d2] 36) := ⟨_, rfl⟩
                        rw [hT] at kT
                        rw [← hwt] at kT hb8 hr1 hs1 hr2 hs2 x0 x1 x2
                        have hcmp : ∀ wx, Below wt.heap.size wt wx → _ := fun wx hb => avsame_same (ll : Int) q1 q2 p1 p2 j c1' j c2' j d1 j d2 (ol.map oget) (ol.map Option.isSome) wx (hr1.below rfl hb) (hr2.below rfl hb) (hs1.below rfl hb) (hs2.below rfl hb) (by rw [List.length_map, HOL.out]; have := HKN.out; omega) (by rw [List.length_map, HOL.out]; have := HKN.out; omega)
                        have HCMP := Lib.hid hcmp
                        have HWT := Lib.hid hwt
                        have HT := Lib.hid hT
                        have HB8 := Lib.hid (HB.out.trans (hb8.mono hszv))
                        have hst8 : wv.heap.size ≤ wt.heap.size := HB8.out.size
                        have y0 : wt.cell? ⟨T, 0, none⟩ = some (.int .i64 (ll : Int)) := kT.cell 0 rfl
                        have y1 : wt.cell? ⟨T, 1, none⟩ = some (.slice p1 j d1) := kT.cell 1 rfl
                        have y2 : wt.cell? ⟨T, 2, none⟩ = some (.slice p2 j d2) := kT.cell 2 rfl
                        rw [Nat.add_zero] at x0
                        rw [← Nat.add_assoc] at x1 x2
                        have X0 := Lib.hid x0
                        have X1 := Lib.hid x1
                        have X2 := Lib.hid x2
                        have Y0 := Lib.hid y0
                        have Y1 := Lib.hid y1
                        have Y2 := Lib.hid y2
                        clear hr7 ho7 ho8 hb7 hal7 kT hb8 hr1 hs1 hr2 hs2 hcmp hwt hT g0 g1 g2 z0 z1 z2 HCALL HR1 HS1 p4'
                        go_upto_region 20 with fail
                        rw [← HWT.out, HT.out]
                        clear HWT HT
                        go_region_held3 (fun w' => w'.cell? ⟨b7, o7 + i * 3, none⟩ = some (.int .i64 (ll : Int)) ∧ w'.cell? ⟨b7, o7 + i * 3 + 1, none⟩ = some (.slice q1 j c1') ∧ w'.cell? ⟨b7, o7 + i * 3 + 2, none⟩ = some (.slice q2 j c2') ∧ w'.cell? ⟨T, 0, none⟩ = some (.int .i64 (ll : Int)) ∧ w'.cell? ⟨T, 1, none⟩ = some (.slice p1 j d1) ∧ w'.cell? ⟨T, 2, none⟩ = some (.slice p2 j d2))
                          ((first | exact ⟨by with_reducible assumption, by with_reducible assumption, by with_reducible assumption, by with_reducible assumption, by with_reducible assumption, by with_reducible assumption⟩ | (refine ⟨?_, ?_, ?_, ?_, ?_, ?_⟩ <;> (repeat (first | with_reducible assumption | with_reducible refine keepD ?_)))))
                          ((first
                            | (go_at_call 11; (with_reducible refine Calls.mono (HCMP.out _ ?_) ?_); (first | with_reducible exact Below.refl _ _ | with_reducible exact (Below.refl _ _).drew | with_reducible exact (Below.refl _ _).drew.drew); rintro e w9 ⟨rfl, hb9⟩; have hb10 : Below wt.heap.size wt w9 := Below.trans (by (repeat (first | with_reducible exact Below.refl _ _ | with_reducible refine Below.drew ?_))) hb9; have HB10 := Lib.hid hb10; have x09 := (hb10.cell (World.block_lt_of_cell? wt _ X0.out)).trans X0.out; have x19 := (hb10.cell (World.block_lt_of_cell? wt _ X1.out)).trans X1.out; have x29 := (hb10.cell (World.block_lt_of_cell? wt _ X2.out)).trans X2.out; have y09 := (hb10.cell (World.block_lt_of_cell? wt _ Y0.out)).trans Y0.out; have y19 := (hb10.cell (World.block_lt_of_cell? wt _ Y1.out)).trans Y1.out; have y29 := (hb10.cell (World.block_lt_of_cell? wt _ Y2.out)).trans Y2.out; clear hb9 hb10)
                            | fail))
                        all_goals
                          have hMl := HLLL.out
                          go_wp2_with fail
                          go_roundg k
                          case measure => omega
                          case rel => exact ⟨i + 1, by go_num, by omega, HB8.out.trans (HB10.out.mono hst8)⟩
                    · obtain rfl : i = M := by omega
                      go_wp2_with fail
                      go_ret
                      exact ⟨rfl, HBR.out.trans (HB.out.mono HBR.out.size)⟩
end Go.Proofs.Ytnfkjcopeljknaa
