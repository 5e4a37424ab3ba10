/- What impl's steps on sparse arrays do; walk of laws.baAnswers. -/
import Derived.Test.YtgifbdjifmoafaaGreatBaRun
namespace Go.Proofs.YtgifbdjifmoafaaGreat
set_option linter.unusedVariables false
open Go.RowKit Bam

/-- a sparse array that the walks serve -/
structure SOk (ps : Ps) : Prop where
  ok : Ok ps
  nz : Nz ps
  len : ps.length ≤ 900
  small : ∀ q ∈ ps, q.1 < 144115188075855872

theorem ent_of {es : List Ent} {σ : List Arr} (h : es.map (·.x) = σ) {i : Nat} {x : Arr} (hi : σ[i]? = some x) : ∃ p F, es[i]? = some ⟨p, F, x⟩ := by
  rw [← h, List.getElem?_map] at hi
  cases he : es[i]? with
  | none => rw [he] at hi; cases hi
  | some e =>
    rw [he] at hi
    injection hi with hi
    obtain ⟨p, F, y⟩ := e
    exact ⟨p, F, by rw [← hi]⟩
theorem map_set_x {es : List Ent} {i : Nat} {p : Nat} {F : List Nat} {x : Arr} : (es.set i ⟨p, F, x⟩).map (·.x) = (es.map (·.x)).set i x := by rw [List.map_set]
theorem Left.plain {w w' : World} {a : Nat} {s s' : Option Addr} {c c' : Nat} {es es' : List Ent} {σ' : List Arr} {y : Bool} {n : Nat} {e : Ending} (he : e = .returned (ansV y n (.slice none 0 0))) (hσ : es'.map (·.x) = σ') (hs : Sta w' a s' c' es') (hf : Fr (foot a s c es) (foot a s' c' es') w w') : Left σ' ⟨y, n, []⟩ w a s c es e w' :=
  ⟨s', c', es', none, 0, 0, he, hσ, World.ownsRow_nil _ _ _ _, fun k hk => by simp [obl_none] at hk, hs, hf⟩

theorem does_new (σ : List Arr) (t : Stp) (h : t.op = 2) : Does σ t (σ ++ [.sp []]) ⟨false, 0, []⟩ := by
  intro w a s c es hs hσ hl
  rw [h]
  refine (step2_any a s c es _ _ _ _ _ w hs hl).mono fun e w' ⟨he, s', c', p, F, h1, h2⟩ => ?_
  exact Left.plain he (by rw [List.map_append, hσ]; rfl) h1 h2
theorem does_set (σ : List Arr) (t : Stp) (ps : Ps) (h : t.op = 3) (hi : σ[t.on]? = some (.sp ps)) (hp : SOk ps) (hk : t.k < 18446744073709551616) : Does σ t (σ.set t.on (.sp (setB ps t.k))) ⟨true, 0, []⟩ := by
  intro w a s c es hs hσ hl
  rw [h]
  obtain ⟨p, F, he⟩ := ent_of hσ hi
  refine (step3_sp a s c es t.on p F ps _ t.k _ _ w hs hl he hp.ok (Nat.le_trans hp.len (by decide)) hk).mono fun e w' ⟨he, F', h1, h2⟩ => ?_
  exact Left.plain he (by rw [map_set_x, hσ]) h1 h2
theorem does_clear (σ : List Arr) (t : Stp) (ps : Ps) (h : t.op = 4) (hi : σ[t.on]? = some (.sp ps)) (hp : SOk ps) (hk : t.k < 18446744073709551616) : Does σ t (σ.set t.on (.sp (clearB ps t.k))) ⟨true, 0, []⟩ := by
  intro w a s c es hs hσ hl
  rw [h]
  obtain ⟨p, F, he⟩ := ent_of hσ hi
  refine (step4_sp a s c es t.on p F ps _ t.k _ _ w hs hl he hp.ok (Nat.le_trans hp.len (by decide)) hk).mono fun e w' ⟨he, F', h1, h2⟩ => ?_
  exact Left.plain he (by rw [map_set_x, hσ]) h1 h2
theorem does_get (σ : List Arr) (t : Stp) (ps : Ps) (h : t.op = 5) (hi : σ[t.on]? = some (.sp ps)) (hp : SOk ps) (hk : t.k < 18446744073709551616) : Does σ t σ ⟨true, if sHas (nums ps) t.k then 1 else 0, []⟩ := by
  intro w a s c es hs hσ hl
  rw [h]
  obtain ⟨p, F, he⟩ := ent_of hσ hi
  cases hy : sHas (nums ps) t.k with
  | true => exact (step5y_sp a s c es t.on p F ps _ t.k _ _ w hs hl he hp.ok (Nat.le_trans hp.len (by decide)) hk hy).mono fun e w' ⟨he, h1, h2⟩ => Left.plain he hσ h1 h2
  | false => exact (step5n_sp a s c es t.on p F ps _ t.k _ _ w hs hl he hp.ok (Nat.le_trans hp.len (by decide)) hk hy).mono fun e w' ⟨he, h1, h2⟩ => Left.plain he hσ h1 h2
theorem does_reset (σ : List Arr) (t : Stp) (ps : Ps) (h : t.op = 6) (hi : σ[t.on]? = some (.sp ps)) (hp : SOk ps) : Does σ t (σ.set t.on (.sp [])) ⟨false, 0, []⟩ := by
  intro w a s c es hs hσ hl
  rw [h]
  obtain ⟨p, F, he⟩ := ent_of hσ hi
  refine (step6_sp a s c es t.on p F ps _ t.k _ _ w hs hl he hp.ok (Nat.le_trans hp.len (by decide))).mono fun e w' ⟨he, F', h1, h2⟩ => ?_
  exact Left.plain he (by rw [map_set_x, hσ]) h1 h2
theorem does_cap (σ : List Arr) (t : Stp) (ps : Ps) (h : t.op = 9) (hi : σ[t.on]? = some (.sp ps)) (hp : SOk ps) : Does σ t σ ⟨false, capP ps, []⟩ := by
  intro w a s c es hs hσ hl
  rw [h]
  obtain ⟨p, F, he⟩ := ent_of hσ hi
  exact (step9_sp a s c es t.on p F ps _ t.k _ _ w hs hl he hp.ok (Nat.le_trans hp.len (by decide)) hp.small).mono fun e w' ⟨he, h1, h2⟩ => Left.plain he hσ h1 h2
theorem cnt_le (ps : Ps) : (nums ps).length ≤ 64 * ps.length := by
  have := nums_take_len ps ps.length
  rwa [List.take_length] at this
theorem does_count (σ : List Arr) (t : Stp) (ps : Ps) (h : t.op = 10) (hi : σ[t.on]? = some (.sp ps)) (hp : SOk ps) : Does σ t σ ⟨false, (nums ps).length, []⟩ := by
  intro w a s c es hs hσ hl
  rw [h]
  obtain ⟨p, F, he⟩ := ent_of hσ hi
  exact (step10_sp a s c es t.on p F ps _ t.k _ _ w hs hl he hp.ok (Nat.le_trans hp.len (by decide)) _ rfl (by have := cnt_le ps; have := hp.len; omega)).mono fun e w' ⟨he, h1, h2⟩ => Left.plain he hσ h1 h2
theorem does_empty (σ : List Arr) (t : Stp) (ps : Ps) (h : t.op = 15) (hi : σ[t.on]? = some (.sp ps)) (hp : SOk ps) : Does σ t σ ⟨decide (ps.length = 0), 0, []⟩ := by
  intro w a s c es hs hσ hl
  rw [h]
  obtain ⟨p, F, he⟩ := ent_of hσ hi
  exact (step15_sp a s c es t.on p F ps _ t.k _ _ w hs hl he hp.ok (Nat.le_trans hp.len (by decide)) _ rfl).mono fun e w' ⟨he, h1, h2⟩ => Left.plain he hσ h1 h2
theorem does_nums (σ : List Arr) (t : Stp) (ps : Ps) (h : t.op = 14) (hi : σ[t.on]? = some (.sp ps)) (hp : SOk ps) : Does σ t σ ⟨false, 0, nums ps⟩ := by
  intro w a s c es hs hσ hl
  rw [h]
  obtain ⟨p, F, he⟩ := ent_of hσ hi
  exact (step14_sp a s c es t.on p F ps _ t.k _ _ w hs hl he hp.ok (Nat.le_trans hp.len (by decide)) hp.small).mono fun e w' ⟨v, m, cc, he, ho, ha, h1, h2⟩ => ⟨s, c, es, v, m, cc, he, hσ, ho, ha, h1, h2⟩

def AnsRel (n : Nat) (w : World) (k : Nat) (idx : Value) (wr : World) : Prop := ∃ i : Nat, idx = .int .i64 (i : Int) ∧ i + k = n ∧ wr = w

theorem said_cells {w : World} {B : Nat} {R : List (List Value)} {T : List An} {pa : Option Addr} {ca n : Nat} (ho : w.ownsRow B 44 4 (.slice pa n ca) n R.flatten) (hl : ∀ r ∈ R, r.length = 4) (hn : R.length = n) (hs : SaidAt w B R T) (h0 : 0 < n) :
    ∃ g, pa = some ⟨g, 0, none⟩ ∧ ∀ i t, T[i]? = some t → ∃ v m c, w.cell? ⟨g, i * 4, none⟩ = some (.bool t.yes) ∧ w.cell? ⟨g, i * 4 + 1, none⟩ = some (.int .u64 (t.n : Int)) ∧ w.cell? ⟨g, i * 4 + 2, none⟩ = some (.slice v m c) ∧ w.cell? ⟨g, i * 4 + 3, none⟩ = some (.bool false) ∧ w.ownsRow B 25 1 (.slice v m c) m (u64s t.nums) := by
  have hg : ∃ g, pa = some ⟨g, 0, none⟩ := by
    rcases ho.2 with ⟨e, e2⟩ | ⟨g, cap, cur, e, _⟩
    · omega
    · injection e with e; exact ⟨g, e⟩
  obtain ⟨g, rfl⟩ := hg
  refine ⟨g, rfl, fun i t hi => ?_⟩
  have hir : i < R.length := by rw [hs.1]; exact (List.getElem?_eq_some_iff.1 hi).1
  have hri := List.getElem?_eq_getElem hir
  obtain ⟨v, m, c, e1, e2⟩ := hs.2 i _ t hri hi
  rw [e1] at hri
  have cell : ∀ j u, ([.bool t.yes, .int .u64 (t.n : Int), .slice v m c, .bool false] : List Value)[j]? = some u → w.cell? ⟨g, i * 4 + j, none⟩ = some u := fun j u hu => by
    have hf := flatten_at 4 R hl i j _ u hri hu
    have := ho.cells (g := g) rfl (i * 4 + j) u hf
    rw [addr_add, Nat.zero_add] at this
    exact this
  exact ⟨v, m, c, cell 0 _ rfl, cell 1 _ rfl, cell 2 _ rfl, cell 3 _ rfl, e2⟩

set_option maxHeartbeats 1000000 in
theorem answers_any (ss : List Stp) (ts : List An) (σ' : List Arr) (v : Value) (w : World) (hv : Rw 6 w v (ss.map stpRow)) (hr : Runs [] ss ts σ') (hn : ss.length ≤ 400) (h0 : 0 < ss.length) :
    Calls Tryz.prog 6 #[v] w fun e w' => ∃ (pa : Option Addr) (ca : Nat) (rows : List (List Value)), e = .returned (.slice pa ss.length ca) ∧ w'.ownsRow w.heap.size 44 4 (.slice pa ss.length ca) ss.length rows.flatten ∧ (∀ r ∈ rows, r.length = 4) ∧ rows.length = ss.length ∧ SaidAt w' w.heap.size rows ts ∧ Below w.heap.size w w' := by
  have hrun := barun_any ss ts σ' v w hv hr hn
  have HRun := Lib.hid hrun
  have htl := hr.len
  obtain ⟨a0, n, cap, rfl, hla, hc, hm, hrr⟩ := hv
  rw [List.length_map] at hla
  obtain rfl : n = ss.length := hla.symm
  obtain ⟨n, hN⟩ : ∃ n, n = ss.length := ⟨_, rfl⟩
  rw [← hN] at hn h0 HRun htl ⊢
  have HTL := Lib.hid htl
  clear hrun hla hrr hr htl hN hc hm
  go_enter Tryz.func6, Tryz.ntmps6
  go_wp2_with fail
  refine HRun.out.mono ?_
  rintro e w1 ⟨pa, ca, rows, rfl, ho, hl, hrn, hs, hb⟩
  obtain ⟨g, rfl, hcell⟩ := said_cells ho hl hrn hs h0
  have HO := Lib.hid ho
  have HL := Lib.hid hl
  have HRN := Lib.hid hrn
  have HS := Lib.hid hs
  have HB := Lib.hid hb
  have HC := Lib.hid hcell
  clear ho hl hrn hs hb hcell
  go_wp2_with fail
  go_loopg [4] n (fun k idx wr => AnsRel n w1 k idx wr)
  case atStart => exact ⟨0, rfl, by omega, rfl⟩
  case round =>
    obtain ⟨i, rfl, hik, rfl⟩ := hrel
    by_cases hi : i < n
    · have hit : i < ts.length := by rw [HTL.out]; exact hi
      obtain ⟨v, m, c, k0, k1, k2, k3, k4⟩ := HC.out i _ (List.getElem?_eq_getElem hit)
      cases gk with
      | zero => omega
      | succ k =>
        clear k0 k1 k2 k4 hit
        go_wp2_with fail
        go_roundg k
        case measure => omega
        case rel => exact ⟨i + 1, by go_num, by omega, rfl⟩
    · obtain rfl : i = n := by omega
      go_wp2_with fail
      go_ret
      exact ⟨_, ca, rows, rfl, HO.out, HL.out, HRN.out, HS.out, HB.out⟩
end Go.Proofs.YtgifbdjifmoafaaGreat
