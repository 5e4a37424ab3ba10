/- Walk of impl.BARun: what each step does, step by step. -/
import Derived.Test.YtgifbdjifmoafaaGreatBaStep2
import Derived.Test.YtgifbdjifmoafaaGreatRow
namespace Go.Proofs.YtgifbdjifmoafaaGreat
set_option linter.unusedVariables false
open Go.RowKit Bam

structure Stp where
  op : Nat
  on : Nat
  by_ : Nat
  k : Nat
  most : Nat
  all : Bool
structure An where
  yes : Bool
  n : Nat
  nums : List Nat
def stpRow (s : Stp) : List Value := [.int .i64 (s.op : Int), .int .i64 (s.on : Int), .int .i64 (s.by_ : Int), .int .u64 (s.k : Int), .int .i64 (s.most : Int), .bool s.all]

/-- what a step leaves -/
def Left (σ' : List Arr) (t : An) (w : World) (a : Nat) (s : Option Addr) (c : Nat) (es : List Ent) (e : Ending) (w' : World) : Prop :=
  ∃ (s' : Option Addr) (c' : Nat) (es' : List Ent) (v : Option Addr) (m cc : Nat), e = .returned (ansV t.yes t.n (.slice v m cc)) ∧ es'.map (·.x) = σ' ∧ w'.ownsRow w.heap.size 25 1 (.slice v m cc) m (u64s t.nums) ∧ (∀ k ∈ obl (.slice v m cc), k ∉ foot a s' c' es') ∧ Sta w' a s' c' es' ∧ Fr (foot a s c es) (foot a s' c' es') w w'
/-- a step does this, whatever the memory -/
def Does (σ : List Arr) (t : Stp) (σ' : List Arr) (u : An) : Prop :=
  ∀ (w : World) (a : Nat) (s : Option Addr) (c : Nat) (es : List Ent), Sta w a s c es → es.map (·.x) = σ → es.length ≤ 1000 →
    Calls Tryz.prog 22 #[.pointer (some ⟨a, 0, none⟩), stepV (t.op : Int) (t.on : Int) (t.by_ : Int) t.k (t.most : Int) t.all] w (Left σ' u w a s c es)

inductive Runs : List Arr → List Stp → List An → List Arr → Prop
  | nil (σ : List Arr) : Runs σ [] [] σ
  | cons {σ σ1 σ2 : List Arr} {s : Stp} {ss : List Stp} {t : An} {ts : List An} : σ.length ≤ 500 → Does σ s σ1 t → Runs σ1 ss ts σ2 → Runs σ (s :: ss) (t :: ts) σ2
theorem Runs.len {σ σ' : List Arr} {ss : List Stp} {ts : List An} (h : Runs σ ss ts σ') : ts.length = ss.length := by
  induction h with
  | nil => rfl
  | cons _ _ _ ih => simp [ih]
theorem Runs.append {σ σ1 σ2 : List Arr} {ss ss' : List Stp} {ts ts' : List An} (h : Runs σ ss ts σ1) (h' : Runs σ1 ss' ts' σ2) : Runs σ (ss ++ ss') (ts ++ ts') σ2 := by
  induction h with
  | nil => exact h'
  | cons hl hd _ ih => exact .cons hl hd (ih h')
theorem Runs.one {σ σ1 : List Arr} {s : Stp} {t : An} (hl : σ.length ≤ 500) (hd : Does σ s σ1 t) : Runs σ [s] [t] σ1 := .cons hl hd (.nil _)
theorem Runs.at_ {σ σ' : List Arr} {ss : List Stp} {ts : List An} (h : Runs σ ss ts σ') : ∀ i, i < ss.length → ∃ σi σj s t, ss[i]? = some s ∧ ts[i]? = some t ∧ Runs σ (ss.take i) (ts.take i) σi ∧ σi.length ≤ 500 ∧ Does σi s σj t ∧ Runs σ (ss.take (i + 1)) (ts.take (i + 1)) σj := by
  induction h with
  | nil => intro i hi; simp at hi
  | cons hl hd hr ih =>
    rename_i σ0 σ1 σ2 s ss t ts
    intro i hi
    cases i with
    | zero => exact ⟨σ0, σ1, s, t, rfl, rfl, .nil _, hl, hd, .cons hl hd (.nil _)⟩
    | succ i =>
      obtain ⟨σi, σj, s', t', h1, h2, h3, h4, h5, h6⟩ := ih i (by simpa using hi)
      exact ⟨σi, σj, s', t', by simpa using h1, by simpa using h2, .cons hl hd h3, h4, h5, .cons hl hd h6⟩
theorem Runs.unique_end {σ σ1 : List Arr} {ts : List An} (h : Runs σ [] ts σ1) : σ1 = σ ∧ ts = [] := by cases h; exact ⟨rfl, rfl⟩

theorem info_ans : (Tryz.prog.info? 44).map (fun i => (i.zero, i.size, i.bytes)) = some (some (.agg #[.bool false, .int .u64 0, .slice none 0 0, .bool false]), 4, 48) := by kernel_rfl

/-- what the steps said, as rows of four cells -/
def SaidAt (w : World) (B : Nat) (R : List (List Value)) (T : List An) : Prop := R.length = T.length ∧ ∀ (i : Nat) (row : List Value) (t : An), R[i]? = some row → T[i]? = some t → ∃ (v : Option Addr) (m c : Nat), row = [.bool t.yes, .int .u64 (t.n : Int), .slice v m c, .bool false] ∧ w.ownsRow B 25 1 (.slice v m c) m (u64s t.nums)
/-- the numbers lie apart from the arrays -/
def ApartAt (R : List (List Value)) (F : List Nat) : Prop := ∀ row ∈ R, ∀ v ∈ row, ∀ k ∈ obl v, k ∉ F

def RunLoop (n a : Nat) (ss : List Stp) (ts : List An) (w : World) (k : Nat) (out idx : Value) (wr : World) : Prop :=
  ∃ (i : Nat) (pa s : Option Addr) (ca c : Nat) (rows : List (List Value)) (es : List Ent) (σ : List Arr), out = .slice pa i ca ∧ idx = .int .i64 (i : Int) ∧ i + k = n ∧ wr.ownsRow w.heap.size 44 4 (.slice pa i ca) i rows.flatten ∧ (∀ r ∈ rows, r.length = 4) ∧ rows.length = i ∧
    SaidAt wr w.heap.size rows (ts.take i) ∧ ApartAt rows (foot a s c es) ∧ Sta wr a s c es ∧ es.map (·.x) = σ ∧ (∃ σ2, Runs σ (ss.drop i) (ts.drop i) σ2) ∧ (∀ k ∈ foot a s c es, w.heap.size ≤ k) ∧ Below w.heap.size w wr

theorem Runs.head {σ σ' : List Arr} {ss : List Stp} {ts : List An} {i : Nat} (h : Runs σ (ss.drop i) (ts.drop i) σ') (hi : i < ss.length) : ∃ s t σ1, ss[i]? = some s ∧ ts[i]? = some t ∧ σ.length ≤ 500 ∧ Does σ s σ1 t ∧ Runs σ1 (ss.drop (i + 1)) (ts.drop (i + 1)) σ' := by
  rw [List.drop_eq_getElem_cons hi] at h
  generalize hT : ts.drop i = T at h
  cases h with
  | cons hl hd hr =>
    rename_i σ1 t ts'
    have h0 : ts[i]? = some t := by
      have := congrArg (fun l => l[0]?) hT
      simpa using this
    have h1 : ts.drop (i + 1) = ts' := by
      have := congrArg List.tail hT
      simpa using this
    exact ⟨_, t, σ1, List.getElem?_eq_getElem hi, h0, hl, hd, by rw [h1]; exact hr⟩

theorem own_baseR {w : World} {B B' : Nat} {e : TypeId} {size : Nat} {v : Value} {n : Nat} {xs : List Value} (h : w.ownsRow B e size v n xs) (hB : B' ≤ B) : w.ownsRow B' e size v n xs := own_base h hB

set_option maxRecDepth 100000 in
set_option maxHeartbeats 2000000 in
theorem barun_any (ss : List Stp) (ts : List An) (σ' : List Arr) (v : Value) (w : World) (hv : Rw 6 w v (ss.map stpRow)) (hr : Runs [] ss ts σ') (hn : ss.length ≤ 400) :
    Calls Tryz.prog 14 #[v] w fun e w' => ∃ (pa : Option Addr) (ca : Nat) (rows : List (List Value)), e = .returned (.slice pa ss.length ca) ∧ w'.ownsRow w.heap.size 44 4 (.slice pa ss.length ca) ss.length rows.flatten ∧ (∀ r ∈ rows, r.length = 4) ∧ rows.length = ss.length ∧ SaidAt w' w.heap.size rows ts ∧ Below w.heap.size w w' := by
  obtain ⟨a0, n, cap, rfl, hla, hc, hm, hrr⟩ := hv
  rw [List.length_map] at hla
  have HLA := Lib.hid hla
  have HR := Lib.hid hr
  rw [hla] at hn ⊢
  clear hr hla
  go_enter Tryz.func14, Tryz.ntmps14
  go_wp2_with fail
  have hbk := Blk.new w 57 #[.slice none 0 0]
  have hb1 : Below w.heap.size w (w.alloc (.cells #[.slice none 0 0] 57)) := (Below.refl _ _).alloc (Nat.le_refl _) _
  have hst : Sta (w.alloc (.cells #[.slice none 0 0] 57)) w.heap.size none 0 [] := ⟨hbk, World.ownsRow_nil _ _ _ _, fun e he => by simp at he, fun i j e f hi => by simp at hi⟩
  obtain ⟨a, ha⟩ : ∃ a, w.heap.size = a := ⟨_, rfl⟩
  obtain ⟨w1, hw1⟩ : ∃ w1, w.alloc (.cells #[.slice none 0 0] 57) = w1 := ⟨_, rfl⟩
  have hz1 : ∀ k ∈ foot w.heap.size none 0 [], w.heap.size ≤ k := fun k hk => by
    rcases mem_foot.1 hk with e | e | ⟨e, he, _⟩
    · omega
    · simp [obl_none] at e
    · simp at he
  rw [hw1] at hb1 hst ⊢
  have HST1 : Hid (Sta w1 a none 0 []) := Lib.hid (ha ▸ hst)
  have HB1 := Lib.hid hb1
  have HZ1 : Hid (∀ k ∈ foot a none 0 [], w.heap.size ≤ k) := Lib.hid (ha ▸ hz1)
  have hpa : Value.pointer (some ⟨w.heap.size, 0, none⟩) = .pointer (some ⟨a, 0, none⟩) := by rw [ha]
  rw [hpa]
  clear hbk hst hb1 hw1 hz1 hpa
  have HAS := Lib.hid ha
  clear ha
  go_loopg [4, 11] n (fun k out idx wr => RunLoop n a ss ts w k out idx wr)
  case atStart => exact ⟨0, none, none, 0, 0, [], [], [], rfl, rfl, by omega, by simpa using World.ownsRow_nil w1 w.heap.size 44 4, by simp, rfl, ⟨by simp, fun i row t h => by simp at h⟩, fun row h => by simp at h, HST1.out, rfl, ⟨σ', HR.out⟩, HZ1.out, HB1.out⟩
  case round =>
    obtain ⟨i, pa, s, ca, c, rows, es, σ, rfl, rfl, hik, hown, hrl, hrn, hsaid, hap, hst, hσ, ⟨σ2, hruns⟩, hfo, hbel⟩ := hrel
    have HO := Lib.hid hown
    have HRL := Lib.hid hrl
    have HRN := Lib.hid hrn
    have HSA := Lib.hid hsaid
    have HAP := Lib.hid hap
    have HST := Lib.hid hst
    have HSI := Lib.hid hσ
    have HFO := Lib.hid hfo
    have HB := Lib.hid hbel
    have hsz := hbel.size
    clear hown hrl hrn hsaid hap hst hσ hfo hbel
    by_cases hi : i < n
    · cases gk with
      | zero => omega
      | succ k =>
        obtain ⟨b1, o1, rfl, hcell⟩ := hrr (by omega)
        have hiS : i < ss.length := by rw [HLA.out]; exact hi
        obtain ⟨st, t, σ1, h1, h2, h3, hdo, h5⟩ := hruns.head hiS
        have hel : es.length = σ.length := by rw [← HSI.out, List.length_map]
        have hR : (ss.map stpRow)[i]? = some (stpRow st) := by rw [List.getElem?_map, h1]; rfl
        have tht : ts.take (i + 1) = ts.take i ++ [t] := by
          obtain ⟨hlt, hge⟩ := List.getElem?_eq_some_iff.1 h2
          rw [List.take_succ_eq_append_getElem hlt, hge]
        obtain ⟨op, on, by_, kk, most, all⟩ := st
        have d0 := hcell i _ hR 0 (.int .i64 (op : Int)) rfl
        have d1 := hcell i _ hR 1 (.int .i64 (on : Int)) rfl
        have d2 := hcell i _ hR 2 (.int .i64 (by_ : Int)) rfl
        have d3 := hcell i _ hR 3 (.int .u64 (kk : Int)) rfl
        have d4 := hcell i _ hR 4 (.int .i64 (most : Int)) rfl
        have d5 := hcell i _ hR 5 (.bool all) rfl
        rw [← HB.out.cell (World.block_lt_of_cell? w _ d0), Nat.add_zero] at d0
        rw [← HB.out.cell (World.block_lt_of_cell? w _ d1), ← Nat.add_assoc] at d1
        rw [← HB.out.cell (World.block_lt_of_cell? w _ d2), ← Nat.add_assoc] at d2
        rw [← HB.out.cell (World.block_lt_of_cell? w _ d3), ← Nat.add_assoc] at d3
        rw [← HB.out.cell (World.block_lt_of_cell? w _ d4), ← Nat.add_assoc] at d4
        rw [← HB.out.cell (World.block_lt_of_cell? w _ d5), ← Nat.add_assoc] at d5
        have hbz : Below wr.heap.size wr (wr.alloc (.cells #[.int .i64 (op : Int), .int .i64 (on : Int), .int .i64 (by_ : Int), .int .u64 (kk : Int), .int .i64 (most : Int), .bool all] 33)) := (Below.refl _ _).alloc (Nat.le_refl _) _
        have hBz : Below w.heap.size w (wr.alloc (.cells #[.int .i64 (op : Int), .int .i64 (on : Int), .int .i64 (by_ : Int), .int .u64 (kk : Int), .int .i64 (most : Int), .bool all] 33)) := HB.out.trans (hbz.mono hsz)
        have hc := hdo _ a s c es (HST.out.below hbz) HSI.out (by omega)
        have HC := Lib.hid hc
        have HRU := Lib.hid h5
        have HTK := Lib.hid tht
        have HBZ := Lib.hid hbz
        have HBW := Lib.hid hBz
        have HEL := Lib.hid (show es.length ≤ 500 by omega)
        clear hrr hcell hiS h1 h2 h3 hdo h5 hel hR tht hbz hBz hc hruns
        go_wp2_with fail
        refine HC.out.mono ?_
        rintro e w2 ⟨s', c', es', vv, m, cc, rfl, hσ', ho2, ha2, hs2, hf2⟩
        unfold ansV
        obtain ⟨y, hy⟩ : ∃ y, t.yes = y := ⟨_, rfl⟩
        obtain ⟨nn, hnn⟩ : ∃ nn, t.n = nn := ⟨_, rfl⟩
        rw [hy, hnn]
        have HE := Lib.hid (And.intro hy hnn)
        have HO2 := Lib.hid ho2
        have HA2 := Lib.hid ha2
        have HS2 := Lib.hid hs2
        have HF2 := Lib.hid hf2
        have HSI2 := Lib.hid hσ'
        have hz2 := hf2.size
        simp only [World.size_alloc] at hz2
        have hoa : w2.ownsRow w.heap.size 44 4 (.slice pa i ca) i rows.flatten := hf2.own (HO.out.alloc _) (fun k hk hk2 => by
          have hst := HST.out
          rcases mem_foot.1 hk2 with e | e | ⟨e, he, hk2⟩
          · exact row_blk HO.out hst.blk (by decide) (e ▸ mem_obl.1 hk)
          · exact row_row HO.out hst.row (by decide) k hk e
          · exact (hst.at_ e he).apart_row HO.out (by decide) (by decide) (by decide) (by decide) k hk hk2)
        have HOA := Lib.hid hoa
        have hmx : i + 1 ≤ maxLen := by unfold maxLen; omega
        have hone : ∀ u ∈ (#[.bool y, .int .u64 (nn : Int), .slice vv m cc, .bool false] : Array Value).toList, u.oneCell' = true := by
          intro u hu
          simp at hu
          rcases hu with rfl | rfl | rfl | rfl <;> rfl
        have HON := Lib.hid hone
        clear ho2 ha2 hs2 hf2 hσ' hy hnn hoa hone d0 d1 d2 d3 d4 d5
        go_wp2_with (at_builtin; refine wpList_appendS rfl _ _ 34 rfl w.heap.size 4 44 (.agg #[.bool false, .int .u64 0, .slice none 0 0, .bool false]) 48 Tryz.underlying34 info_ans rfl (by decide) (.slice pa i ca) i rows.flatten rfl HOA.out #[.bool y, .int .u64 (nn : Int), .slice vv m cc, .bool false] rfl rfl HON.out hmx (by omega) (by omega) ?_; intro g3 cap3 w3 hown3 hg3 hb3; have HO3 := Lib.hid hown3; have HG3 := Lib.hid hg3; have HB3 := Lib.hid hb3; clear hown3 hg3 hb3)
        go_roundg k
        case measure => omega
        case rel =>
          obtain ⟨hE1, hE2⟩ := HE.out
          have hfo : ∀ v ∈ ([.bool y, .int .u64 (nn : Int), .slice vv m cc, .bool false] : List Value), ∀ k ∈ obl v, k ∈ obl (.slice vv m cc) := by
            intro v hv k hk
            simp only [List.mem_cons, List.mem_nil_iff, or_false] at hv
            rcases hv with rfl | rfl | rfl | rfl
            · simp [obl, Value.ownBlock] at hk
            · simp [obl, Value.ownBlock] at hk
            · exact hk
            · simp [obl, Value.ownBlock] at hk
          have hout : ∀ k ∈ obl (.slice pa i ca), k ∉ foot a s' c' es' := fun k hk hk2 => by
            have hst := HS2.out
            rcases mem_foot.1 hk2 with e | e | ⟨e, he, hk2⟩
            · exact row_blk HOA.out hst.blk (by decide) (e ▸ mem_obl.1 hk)
            · exact row_row HOA.out hst.row (by decide) k hk e
            · exact (hst.at_ e he).apart_row HOA.out (by decide) (by decide) (by decide) (by decide) k hk hk2
          have hfr3 : Fr (obl (.slice pa i ca)) (obl (.slice pa i ca)) w2 w3 := Fr.of_grown (v' := .slice pa i ca) HG3.out (fun k hk => .inl hk)
          have hkeep : ∀ {v : Value} {q : Nat} {xs : List Value}, wr.ownsRow w.heap.size 25 1 v q xs → (∀ k ∈ obl v, k ∉ foot a s c es) → w3.ownsRow w.heap.size 25 1 v q xs := fun h hn => by
            have h1 := HF2.out.own (h.alloc _) hn
            exact hfr3.own h1 (row_row h1 HOA.out (by decide))
          have hB2 : Below w.heap.size w w2 := HBW.out.trans (HF2.out.below HFO.out (by simp; omega))
          have hs3 : Sta w3 a s' c' es' := HS2.out.frame hfr3 (fun k hk hk2 => hout k hk2 hk)
          have hlen := HSA.out.1
          rw [HRN.out] at hlen
          refine ⟨i + 1, some ⟨g3, 0, none⟩, s', cap3, c', rows ++ [[.bool y, .int .u64 (nn : Int), .slice vv m cc, .bool false]], es', σ1, rfl, by go_num, by omega, by simpa using HO3.out, ?_, by simp [HRN.out], ⟨?_, ?_⟩, ?_, hs3, HSI2.out, ⟨σ2, HRU.out⟩, ?_, hB2.trans HB3.out⟩
          · intro r hr
            rcases List.mem_append.1 hr with h | h
            · exact HRL.out r h
            · simp at h; subst h; rfl
          · rw [HTK.out, List.length_append, List.length_append, HRN.out, ← hlen]; rfl
          · intro j row t' hj ht'
            rw [HTK.out] at ht'
            by_cases hji : j < i
            · rw [List.getElem?_append_left (by rw [HRN.out]; exact hji)] at hj
              rw [List.getElem?_append_left (by rw [← hlen]; exact hji)] at ht'
              obtain ⟨v', m', c2, e1, e2⟩ := HSA.out.2 j row t' hj ht'
              refine ⟨v', m', c2, e1, hkeep e2 (fun k hk => HAP.out row (List.mem_of_getElem? hj) (.slice v' m' c2) (by rw [e1]; simp) k hk)⟩
            · have hj1 := (List.getElem?_eq_some_iff.1 hj).1
              simp [HRN.out] at hj1
              obtain rfl : j = i := by omega
              rw [List.getElem?_append_right (by rw [HRN.out]; exact Nat.le_refl _), HRN.out, Nat.sub_self] at hj
              rw [List.getElem?_append_right (by rw [← hlen]; exact Nat.le_refl _), ← hlen, Nat.sub_self] at ht'
              simp at hj ht'
              subst hj; subst ht'
              have ho := HO2.out
              have ho1 := hfr3.own ho (row_row ho HOA.out (by decide))
              exact ⟨vv, m, cc, by rw [hE1, hE2], own_base ho1 (by simp; omega)⟩
          · intro row hrow v hv k hk hk2
            rcases List.mem_append.1 hrow with h | h
            · have hn := HAP.out row h v hv k hk
              rcases HF2.out.next k hk2 with e | e
              · exact hn e
              · obtain ⟨j, hj⟩ := List.mem_iff_getElem?.1 h
                have hjl : j < (ts.take i).length := by rw [← HSA.out.1]; exact (List.getElem?_eq_some_iff.1 hj).1
                obtain ⟨v', m', c2, e1, e2⟩ := HSA.out.2 j row _ hj (List.getElem?_eq_getElem hjl)
                rw [e1] at hv
                simp only [List.mem_cons, List.mem_nil_iff, or_false] at hv
                rcases hv with rfl | rfl | rfl | rfl
                · simp [obl, Value.ownBlock] at hk
                · simp [obl, Value.ownBlock] at hk
                · have := (own_lt e2 k hk).1; simp at e; omega
                · simp [obl, Value.ownBlock] at hk
            · rw [List.mem_singleton] at h
              subst h
              exact HA2.out k (hfo v hv k hk) hk2
          · intro k hk
            rcases HF2.out.next k hk with e | e
            · exact HFO.out k e
            · simp at e; omega
    · obtain rfl : i = n := by omega
      have et : ts.take i = ts := List.take_of_length_le (by have := HR.out.len; have := HLA.out; omega)
      rw [et] at HSA
      clear et hruns
      go_wp2_with fail
      go_ret
      exact ⟨pa, ca, rows, rfl, HO.out, HRL.out, HRN.out, HSA.out, HB.out⟩
end Go.Proofs.YtgifbdjifmoafaaGreat
