/- The walk of (*BitSet).NextSetMany. -/
import Derived.Test.YtbcbkieebelleaaDoorScan
import Derived.Test.YtbcbkieebelleaaDoorNext
import Derived.Deep.AppendLies
import Derived.Deep.DeepCutAuto
import Derived.Deep.CutBlock
namespace Go.Proofs.YtbcbkieebelleaaDoor
set_option linter.unusedVariables false
open Go.RowKit

/-- the places found so far lie in the buffer in block g -/
def Buf (w : World) (B g rm : Nat) (cs : List Nat) (wr : World) : Prop :=
  ∃ xs : List Nat, wr.ownsRow B 22 1 (.slice (some ⟨g, 0, none⟩) rm rm) rm (u64s xs) ∧ xs.length = rm ∧ xs.take cs.length = cs ∧ w.grownBy wr (some g)
theorem Buf.step {w wr : World} {B g rm : Nat} {cs : List Nat} (h : Buf w B g rm cs wr) (hs : cs.length < rm) (v : Nat) : Buf w B g rm (cs ++ [v]) (wr.setCell ⟨g, cs.length, none⟩ (.int .u64 (v : Int))) := by
  obtain ⟨xs, h1, h2, h3, h4⟩ := h
  have hst := h1.stored cs.length (.int .u64 (v : Int))
  refine ⟨xs.set cs.length v, ?_, by simp [h2], ?_, h4.trans hst.2⟩
  · rw [← u64s_set]; exact hst.1
  · rw [List.length_append, List.length_singleton, List.take_succ_eq_append_getElem (by simp; omega), List.take_set_of_le (Nat.le_refl _), h3]
    simp
theorem Buf.drewN {w wr : World} {B g rm : Nat} {cs : List Nat} (h : Buf w B g rm cs wr) (n : Nat) : Buf w B g rm cs (wr.drewN n) := by
  obtain ⟨xs, h1, h2, h3, h4⟩ := h
  exact ⟨xs, h1, h2, h3, only_drewN h4 n⟩
theorem Buf.has {w wr : World} {B g rm : Nat} {cs : List Nat} (h : Buf w B g rm cs wr) (k : Nat) (hk : k < rm) : ∃ u, wr.cell? ⟨g, k, none⟩ = some (.int .u64 u) := by
  obtain ⟨xs, h1, h2, h3, h4⟩ := h
  exact ⟨_, (h1.cellAt k (by omega)).trans (u64s_at xs k (by omega))⟩
theorem Buf.free {w wr : World} {B g rm : Nat} {cs : List Nat} (h : Buf w B g rm cs wr) (k : Nat) : wr.frozen? ⟨g, k, none⟩ = false := by
  obtain ⟨xs, h1, h2, h3, h4⟩ := h
  exact h1.frozenAt k
theorem Buf.cell {w wr : World} {B g rm : Nat} {cs : List Nat} (h : Buf w B g rm cs wr) (k : Nat) (hk : k < cs.length) (hl : cs.length ≤ rm) : wr.cell? ⟨g, k, none⟩ = some (.int .u64 ((cs.getD k 0 : Nat) : Int)) := by
  obtain ⟨xs, h1, h2, h3, h4⟩ := h
  rw [h1.cellAt k (by omega), u64s_at xs k (by omega)]
  have : xs.getD k 0 = cs.getD k 0 := by
    rw [← h3]
    simp [List.getD_eq_getElem?_getD, List.getElem?_take, hk]
  rw [this]
theorem Buf.grown {w wr : World} {B g rm : Nat} {cs : List Nat} (h : Buf w B g rm cs wr) : w.grownBy wr (some g) := by
  obtain ⟨xs, h1, h2, h3, h4⟩ := h
  exact h4

/-- what NextSetMany returns: the last place that was found, and all of them -/
def ManyIs (f : Nat → Bool) (M i : Nat) (w : World) (B g rm : Nat) (e : Ending) (w' : World) : Prop :=
  ∃ (cs : List Nat) (T last : Nat), e = .returned (.tuple #[.int .u64 (last : Nat), .slice (some ⟨g, 0, none⟩) cs.length rm]) ∧ cs.length ≤ rm ∧ cs = posr f i T ∧ (T = 0 ∨ i + T ≤ M) ∧ Buf w B g rm cs w' ∧
    (cs = [] ∧ (∀ x, i ≤ x → x < M → f x = false) ∨ cs ≠ [] ∧ last + 1 = i + T)
theorem ManyIs.no {f : Nat → Bool} {M i : Nat} {w w' : World} {B g rm : Nat} (h : ∀ x, i ≤ x → x < M → f x = false) (hb : Buf w B g rm [] w') : ManyIs f M i w B g rm (.returned (.tuple #[.int .u64 0, .slice (some ⟨g, 0, none⟩) 0 rm])) w' :=
  ⟨[], 0, 0, rfl, Nat.zero_le _, rfl, .inl rfl, hb, .inl ⟨rfl, h⟩⟩
theorem ManyIs.yes {f : Nat → Bool} {M i T n : Nat} {w w' : World} {B g rm : Nat} {cs : List Nat} {last : Int} (h : cs = posr f i T) (hM : i + T ≤ M) (hl : cs.length ≤ rm) (hn : n = cs.length) (hc : cs ≠ []) (hlast : last + 1 = (i : Int) + (T : Int)) (h0 : 0 ≤ last) (hb : Buf w B g rm cs w') :
    ManyIs f M i w B g rm (.returned (.tuple #[.int .u64 last, .slice (some ⟨g, 0, none⟩) n rm])) w' := by
  obtain ⟨m, rfl⟩ := Int.eq_ofNat_of_zero_le h0
  exact ⟨cs, T, m, by rw [hn], hl, h, .inr hM, hb, .inr ⟨hc, by omega⟩⟩

/-- the loops of NextSetMany: the bits of a word are picked; k places are left in the buffer -/
def PickLoop (f : Nat → Bool) (i b R rm : Nat) (w : World) (B g : Nat) (k : Nat) (size word : Value) (wr : World) : Prop :=
  ∃ (cs : List Nat) (T Y : Nat), size = .int .i64 (cs.length : Int) ∧ word = .int .u64 (Y : Int) ∧ cs.length + k = rm ∧ 0 < k ∧ Scan f i T cs b R Y ∧ Buf w B g rm cs wr
/-- behind the words before M -/
def FoundAt (f : Nat → Bool) (i M rm : Nat) (w : World) (B g : Nat) (size : Value) (wr : World) : Prop :=
  ∃ (cs : List Nat) (T : Nat), size = .int .i64 (cs.length : Int) ∧ cs.length < rm ∧ Found f i T cs M ∧ Buf w B g rm cs wr
def WordsLoop (f : Nat → Bool) (i q n rm : Nat) (w : World) (B g : Nat) (k : Nat) (size idx : Value) (wr : World) : Prop :=
  ∃ j : Nat, idx = .int .i64 (j : Int) ∧ q + 1 + j + k = n ∧ FoundAt f i (64 * (q + 1 + j)) rm w B g size wr

theorem run_uint_to (a : Option Addr) (n cap m : Nat) (k : IntKind) (h : Int) (hh : h = (m : Int)) (hm : m ≤ cap) (W : World) :
    (Instr.slice 23 (.slice a n cap) none (some (.int k h)) none).run Tryd.prog W = .ok (.slice a m cap) W := by
  subst hh
  rw [run_slice_h (P := Tryd.prog) (t := 23) (a := a) (len := n) (cap := cap) (ht := Tryd.underlying23) (kh := k) (h := (m : Int)) (h0 := by omega) (h2 := by omega)]
  have e0 : ∀ p : Addr, p.add 0 = p := fun p => by cases p; simp [Addr.add]
  have es : ((sizeOf (Tryd.prog.elem 23)).run Tryd.prog W) = .ok 1 W := by kernel_rfl
  rw [es]
  simp [Result.andThen, sliced]
  intro _
  cases a <;> simp [e0]

set_option maxRecDepth 100000 in
set_option maxHeartbeats 8000000 in
theorem nextmany_in (B p L i g2 rm B2 : Nat) (ws : List Nat) (w : World) (hb : Bs B w p L ws ws.length) (hn9 : ws.length ≤ 1000) (hq0 : i / 64 < ws.length) (hrm : 1 ≤ rm) (hrm9 : rm ≤ 100) (hT : Tab w)
    (xs0 : List Nat) (hown : w.ownsRow B2 22 1 (.slice (some ⟨g2, 0, none⟩) rm rm) rm (u64s xs0)) (hxs : xs0.length = rm) (hne : g2 ≠ p) (hneg : ∀ g n, w.cell? ⟨p, 1, none⟩ = some (.slice (some ⟨g, 0, none⟩) n n) → g ≠ g2) (hne0 : g2 ≠ 0) :
    Calls Tryd.prog 15 #[.pointer (some ⟨p, 0, none⟩), .int .u64 (i : Int), .slice (some ⟨g2, 0, none⟩) rm rm] w (ManyIs (Bsm.bit ws) (64 * ws.length) i w B2 g2 rm) := by
  have hpl : p < w.heap.size := by obtain ⟨_, _, _, hk, _⟩ := hb; exact hk.lt
  obtain ⟨g, c0, c1, c2⟩ := hb.cells
  have hgg := hneg g _ c1
  have hwlt := hb.word_lt
  obtain ⟨n, hn⟩ : ∃ n, ws.length = n := ⟨_, rfl⟩
  obtain ⟨q, hq⟩ : ∃ q, i / 64 = q := ⟨_, rfl⟩
  have hqi : (i : Int) / 64 = (q : Int) := by omega
  have hbuf0 : Buf w B2 g2 rm [] w := ⟨xs0, hown, hxs, by simp, ⟨rfl, rfl, rfl, Nat.le_refl _, fun _ _ _ => rfl⟩⟩
  have HWLT := Lib.hid hwlt
  have HC2 := Lib.hid c2
  have HN := Lib.hid hn
  have HQ := Lib.hid hq
  have HT := Lib.hid hT
  have HTL := Lib.hid hT.lt
  have HNE0 : Hid (0 ≠ g2) := Ne.symm hne0
  have HNEP : Hid (p ≠ g2) := Ne.symm hne
  have HNEG := Lib.hid hgg
  have HPL := Lib.hid hpl
  rw [hn] at c1 hn9 hq0
  rw [hq] at hq0
  have h1 := HC2.out q (by rw [HN.out]; exact hq0)
  have HGL := Lib.hid (World.block_lt_of_cell? w _ h1)
  obtain ⟨X, hX⟩ : ∃ X, ws.getD q 0 = X := ⟨_, rfl⟩
  have hXlt : X < 18446744073709551616 := by rw [← hX]; exact HWLT.out q
  rw [hX] at h1
  have hsh : (X : Int) / 2 ^ (i % 64) = ((X >>> (i % 64) : Nat) : Int) := by rw [Nat.shiftRight_eq_div_pow]; push_cast; rfl
  obtain ⟨Y, hY⟩ : ∃ Y, X >>> (i % 64) = Y := ⟨_, rfl⟩
  have HF := Lib.hid (Scan.first ws i Y (by rw [hq, hX]; exact hXlt) (by rw [hq, hX]; exact hY))
  rw [hY] at hsh
  have HB0 := Lib.hid hbuf0
  have HC1 := Lib.hid c1
  have hge : decide ((n : Int) ≤ (q : Int)) = false := by simp; omega
  have hrm0 : ((rm : Int) == 0) = false := by simp; omega
  have hi9 : i ≤ 100000 := by omega
  clear hb c0 c2 hwlt hn hT hown hxs hne hneg hne0 hgg hpl hq hX hXlt hY hbuf0
  go_enter Tryd.func15, Tryd.ntmps15
  go_wp2_with fail
  go_quiet ((go_at_call 20; exact Calls.quiet_of_same (windex_still i _ (by omega))))
  go_upto_block 0 with fail
  go_cut [12] (fun s12 wx => FoundAt (Bsm.bit ws) i (64 * (q + 1)) rm w B2 g2 s12 wx)
  case first =>
    go_wp2_with fail
    go_loopg [12, 11] rm (fun k size word wr => PickLoop (Bsm.bit ws) i i (64 - i % 64) rm w B2 g2 k size word wr)
    case atStart => exact ⟨[], 0, Y, rfl, by rw [hsh], by simp, by omega, HF.out, HB0.out.drewN _⟩
    case round =>
      clear hsh
      obtain ⟨cs, T, Y, rfl, rfl, hck, hk0, hsc, hbuf⟩ := hrel
      have HSC := Lib.hid hsc
      have HBUF := Lib.hid hbuf
      have hYlt := hsc.lt
      obtain ⟨s, hs⟩ : ∃ s, cs.length = s := ⟨_, rfl⟩
      rw [hs] at hck ⊢
      have HS := Lib.hid hs
      clear hs hsc hbuf
      have HTR : Hid (Tab wr) := HT.out.of_cells fun j => (HBUF.out.grown).cell_far ⟨0, j, none⟩ HTL.out (by simpa using HNE0.out)
      by_cases h0 : Y = 0
      · subst h0
        have hne : ((0 : Int) != 0) = false := by simp
        clear hYlt
        go_wp2_with fail
        go_meet
        exact ⟨cs, T, by rw [HS.out], by rw [HS.out]; omega, by have h := HSC.out.found; rwa [show i + (64 - i % 64) = 64 * (q + 1) by have := HQ.out; omega] at h, HBUF.out⟩
      · have hne : ((Y : Int) != 0) = true := by simp; omega
        obtain ⟨hcR, hsc2⟩ := HSC.out.step h0
        have HC := Lib.hid (ctz_lt Y h0 hYlt)
        have HST := Lib.hid hsc2
        have HY0 := Lib.hid h0
        have HYL := Lib.hid hYlt
        have hpred : (Y : Int) - 1 = ((Y - 1 : Nat) : Int) := by omega
        have hand := u64_and_nat Y (Y - 1) hYlt (by omega)
        have hwr : IntKind.u64.wrap ((Y - 1 : Nat) : Int) = ((Y - 1 : Nat) : Int) := by rw [IntKind.wrap_u64]; omega
        obtain ⟨Y2, hY2⟩ : ∃ Y2, Y &&& (Y - 1) = Y2 := ⟨_, rfl⟩
        rw [hY2] at hand HST
        obtain ⟨u, hcell⟩ := HBUF.out.has s (by omega)
        have hfree := HBUF.out.free s
        have hs2 : s < rm := by omega
        have hs3 : (s : Int) < (rm : Int) := by omega
        clear h0 hsc2 hYlt hY2
        go_wp2_with fail
        refine (tz_any Y HYL.out HY0.out _ HTR.out).mono ?_
        rintro e w' ⟨rfl, rfl⟩
        obtain ⟨c, hc⟩ : ∃ c, Lib.ctz 64 Y = c := ⟨_, rfl⟩
        have HST2 := HST.out
        have HC2 := HC.out
        rw [hc] at HST2 HC2 hcR ⊢
        have HBS := HBUF.out.step (by rw [HS.out]; omega) (i + c)
        rw [HS.out] at HBS
        have HBT := Lib.hid HBS
        have HST3 := Lib.hid HST2
        have hc64 : c < 64 := HC2
        have HCR := Lib.hid hcR
        clear HST HST2 HC HC2 hc hcR HBS
        by_cases hfull : s + 1 = rm
        · have he : ((s : Int) + 1 == (rm : Int)) = true := by simp; omega
          have hw1 : IntKind.i64.wrap ((s : Int) + 1 - 1) = (s : Int) := by rw [IntWalk.i64_in _ (by omega)]; omega
          have hw2 : (s : Int) + 1 - 1 = (s : Int) := by omega
          have hw3 : (0 : Int) ≤ (s : Int) := by omega
          have hw4 : (0 : Int) ≤ (s : Int) + 1 := by omega
          have hw5 : (s : Int) + 1 ≤ (rm : Int) := by omega
          have hsl := run_uint_to (some ⟨g2, 0, none⟩) rm rm (s + 1) .i64 ((s : Int) + 1) (by omega) (by omega)
          go_wp2_with fail
          go_quiet (fail)
          go_wp2_with fail
          go_ret2
          have hlt := HST3.out.top
          exact ManyIs.yes HST3.out.got (by have := HN.out; have := HCR.out; have := HQ.out; omega) (by rw [List.length_append, HS.out]; simp; omega) (by rw [List.length_append, HS.out, List.length_singleton]; omega) (by simp) (by push_cast; omega) (by omega) (HBT.out.drewN _)
        · have he : ((s : Int) + 1 == (rm : Int)) = false := by simp; omega
          cases gk with
          | zero => omega
          | succ k =>
            go_wp2_with fail
            go_roundg k
            case measure => omega
            case rel => exact ⟨cs ++ [i + c], _, Y2, by rw [List.length_append, HS.out]; simp, rfl, by rw [List.length_append, HS.out]; simp; omega, by omega, HST3.out, HBT.out⟩

  case rest =>
    obtain ⟨cs, T, rfl, hlen, hfnd, hbuf⟩ := hcut
    have d1 := (hbuf.grown.cell_far ⟨p, 1, none⟩ HPL.out (by simpa using HNEP.out)).trans HC1.out
    clear h1 c1 hsh
    by_cases hlast : q + 1 = n
    · subst hlast
      obtain ⟨s, hs⟩ : ∃ s, cs.length = s := ⟨_, rfl⟩
      rw [hs] at hlen ⊢
      have HS := Lib.hid hs
      have HFN := Lib.hid hfnd
      have HBUF := Lib.hid hbuf
      clear hs hfnd hbuf
      by_cases hs0 : s = 0
      · subst hs0
        have hd0 : decide ((0 : Int) < 0) = false := by simp
        have hsl0 := run_uint_to (some ⟨g2, 0, none⟩) rm rm 0 .i64 0 (by omega) (by omega)
        go_wp2_with fail
        refine wp_loop_rounds 1 ?_
        rw [rounds_succ]
        go_wp2_with fail
        go_quiet (fail)
        go_wp2_with fail
        go_ret2
        have hcs : cs = [] := List.eq_nil_of_length_eq_zero HS.out
        have hb := HBUF.out
        have hf := HFN.out
        subst hcs
        have hT0 : T = 0 := by
          rcases hf.last with ⟨_, h⟩ | ⟨l, h, _⟩
          · exact h
          · exact absurd h.symm (List.append_ne_nil_of_right_ne_nil _ (List.cons_ne_nil _ _))
        subst hT0
        exact ManyIs.no (fun x h1 h2 => hf.none x (by omega) (by rw [HN.out] at h2; omega)) (hb.drewN _)
      · obtain ⟨t, rfl⟩ : ∃ t, s = t + 1 := ⟨s - 1, by omega⟩
        have hlast : cs.getD t 0 + 1 = i + T ∧ cs ≠ [] := by
          rcases HFN.out.last with ⟨h, _⟩ | ⟨l, h, h2⟩
          · have := HS.out; rw [h] at this; simp at this
          · have hl := HS.out
            rw [h] at hl ⊢
            simp at hl
            subst hl
            simp [List.getD_eq_getElem?_getD]
            omega
        have HL := Lib.hid hlast
        have hc := HBUF.out.cell t (by rw [HS.out]; omega) (by rw [HS.out]; omega)
        obtain ⟨la, hla⟩ : ∃ la, cs.getD t 0 = la := ⟨_, rfl⟩
        rw [hla] at hc HL
        have hd0 : decide ((0 : Int) < (t : Int) + 1) = true := decide_eq_true (by omega)
        have hsl0 := run_uint_to (some ⟨g2, 0, none⟩) rm rm (t + 1) .i64 ((t : Int) + 1) (by omega) (by omega)
        have hw2 : (t : Int) + 1 - 1 = (t : Int) := by omega
        have hw1 : IntKind.i64.wrap ((t : Int) + 1 - 1) = (t : Int) := by rw [hw2]; exact IntWalk.i64_in _ (by omega)
        have hw3 : (0 : Int) ≤ (t : Int) := by omega
        have hw4 : (t : Int) < (rm : Int) := by omega
        clear hlast hla hs0
        have ht0 : (0 : Int) < (t : Int) + 1 := by omega
        have hw5 : (0 : Int) ≤ (t : Int) + 1 := by omega
        have hw6 : (t : Int) + 1 ≤ (rm : Int) := by omega
        go_wp2_with fail
        refine wp_loop_rounds 1 ?_
        rw [rounds_succ]
        go_wp2_with fail
        go_quiet (fail)
        go_wp2_with fail
        go_ret2
        exact ManyIs.yes HFN.out.got (by rw [HN.out]; exact HFN.out.top) (by rw [HS.out]; omega) (by rw [HS.out]) HL.out.2 (by have := HL.out.1; omega) (by omega) (HBUF.out.drewN _)

    · obtain ⟨m, rfl⟩ : ∃ m, n = q + 1 + (m + 1) := ⟨n - (q + 2), by omega⟩
      clear hlast
      have HFN := Lib.hid hfnd
      have HBU := Lib.hid hbuf
      clear hfnd hbuf
      go_wp2_with fail
      go_loopg [12, 82] (m + 1) (fun k size idx wr => WordsLoop (Bsm.bit ws) i q (q + 1 + (m + 1)) rm w B2 g2 k size idx wr)
      case atStart => exact ⟨0, rfl, by omega, cs, T, rfl, hlen, HFN.out, HBU.out⟩
      case round =>
        clear hlen HFN HBU d1
        obtain ⟨j, rfl, hjk, cs, T, rfl, hlen, hfnd, hbuf⟩ := hrel
        cases gk with
        | zero =>
          obtain rfl : j = m + 1 := by omega
          obtain ⟨s, hs⟩ : ∃ s, cs.length = s := ⟨_, rfl⟩
          rw [hs] at hlen ⊢
          have HS := Lib.hid hs
          have HFN := Lib.hid hfnd
          have HBUF := Lib.hid hbuf
          clear hs hfnd hbuf
          by_cases hs0 : s = 0
          · subst hs0
            have hd0 : decide ((0 : Int) < 0) = false := by simp
            have hsl0 := run_uint_to (some ⟨g2, 0, none⟩) rm rm 0 .i64 0 (by omega) (by omega)
            go_wp2_with fail
            go_quiet (fail)
            go_wp2_with fail
            go_ret2
            have hcs : cs = [] := List.eq_nil_of_length_eq_zero HS.out
            have hb := HBUF.out
            have hf := HFN.out
            subst hcs
            have hT0 : T = 0 := by
              rcases hf.last with ⟨_, h⟩ | ⟨l, h, _⟩
              · exact h
              · exact absurd h.symm (List.append_ne_nil_of_right_ne_nil _ (List.cons_ne_nil _ _))
            subst hT0
            exact ManyIs.no (fun x h1 h2 => hf.none x (by omega) (by rw [HN.out] at h2; omega)) (hb.drewN _)
          · obtain ⟨t, rfl⟩ : ∃ t, s = t + 1 := ⟨s - 1, by omega⟩
            have hlast : cs.getD t 0 + 1 = i + T ∧ cs ≠ [] := by
              rcases HFN.out.last with ⟨h, _⟩ | ⟨l, h, h2⟩
              · have := HS.out; rw [h] at this; simp at this
              · have hl := HS.out
                rw [h] at hl ⊢
                simp at hl
                subst hl
                simp [List.getD_eq_getElem?_getD]
                omega
            have HL := Lib.hid hlast
            have hc := HBUF.out.cell t (by rw [HS.out]; omega) (by rw [HS.out]; omega)
            obtain ⟨la, hla⟩ : ∃ la, cs.getD t 0 = la := ⟨_, rfl⟩
            rw [hla] at hc HL
            have hd0 : decide ((0 : Int) < (t : Int) + 1) = true := decide_eq_true (by omega)
            have hsl0 := run_uint_to (some ⟨g2, 0, none⟩) rm rm (t + 1) .i64 ((t : Int) + 1) (by omega) (by omega)
            have hw2 : (t : Int) + 1 - 1 = (t : Int) := by omega
            have hw1 : IntKind.i64.wrap ((t : Int) + 1 - 1) = (t : Int) := by rw [hw2]; exact IntWalk.i64_in _ (by omega)
            have hw3 : (0 : Int) ≤ (t : Int) := by omega
            have hw4 : (t : Int) < (rm : Int) := by omega
            clear hlast hla hs0
            have ht0 : (0 : Int) < (t : Int) + 1 := by omega
            have hw5 : (0 : Int) ≤ (t : Int) + 1 := by omega
            have hw6 : (t : Int) + 1 ≤ (rm : Int) := by omega
            go_wp2_with fail
            go_quiet (fail)
            go_wp2_with fail
            go_ret2
            exact ManyIs.yes HFN.out.got (by rw [HN.out]; exact HFN.out.top) (by rw [HS.out]; omega) (by rw [HS.out]) HL.out.2 (by have := HL.out.1; omega) (by omega) (HBUF.out.drewN _)

        | succ k0 =>
          obtain ⟨wo, rfl⟩ : ∃ wo : World, wo = wr := ⟨_, rfl⟩
          have hj : j < m + 1 := by omega
          have hj2 : (j : Int) < (m : Int) + 1 := by omega
          have h2 := (hbuf.grown.cell_far ⟨g, q + 1 + j, none⟩ HGL.out (by simpa using HNEG.out)).trans (HC2.out (q + 1 + j) (by rw [HN.out]; omega))
          have HSN := Lib.hid (hfnd.next (HWLT.out (q + 1 + j)))
          have HBU := Lib.hid hbuf
          have HLEN := Lib.hid hlen
          clear hfnd hbuf hlen
          obtain ⟨Z, hZ⟩ : ∃ Z, ws.getD (q + 1 + j) 0 = Z := ⟨_, rfl⟩
          rw [hZ] at h2 HSN
          clear hZ
          go_wp2_with fail
          go_loopg [12, 14] (rm - cs.length) (fun k size word wr => PickLoop (Bsm.bit ws) i (64 * (q + 1 + j)) 64 rm w B2 g2 k size word wr)
          case atStart => exact ⟨cs, T, Z, rfl, rfl, by have := HLEN.out; omega, by have := HLEN.out; omega, HSN.out, HBU.out⟩
          case round =>
            clear HLEN HBU
            obtain ⟨cs, T, Y, rfl, rfl, hck, hk0, hsc, hbuf⟩ := hrel
            have HSC := Lib.hid hsc
            have HBUF := Lib.hid hbuf
            have hYlt := hsc.lt
            obtain ⟨s, hs⟩ : ∃ s, cs.length = s := ⟨_, rfl⟩
            rw [hs] at hck ⊢
            have HS := Lib.hid hs
            clear hs hsc hbuf
            have HTR : Hid (Tab wr) := HT.out.of_cells fun j => (HBUF.out.grown).cell_far ⟨0, j, none⟩ HTL.out (by simpa using HNE0.out)
            by_cases h0 : Y = 0
            · subst h0
              have hne : ((0 : Int) != 0) = false := by simp
              clear hYlt
              go_wp2_with fail
              go_roundg k0
              case measure => omega
              case rel => exact ⟨j + 1, by go_num, by omega, cs, T, by rw [HS.out], by rw [HS.out]; omega, by have h := HSC.out.found; rwa [show 64 * (q + 1 + j) + 64 = 64 * (q + 1 + (j + 1)) by omega] at h, HBUF.out⟩
            · have hne : ((Y : Int) != 0) = true := by simp; omega
              obtain ⟨hcR, hsc2⟩ := HSC.out.step h0
              have HC := Lib.hid (ctz_lt Y h0 hYlt)
              have HST := Lib.hid hsc2
              have HY0 := Lib.hid h0
              have HYL := Lib.hid hYlt
              have hpred : (Y : Int) - 1 = ((Y - 1 : Nat) : Int) := by omega
              have hand := u64_and_nat Y (Y - 1) hYlt (by omega)
              have hwr : IntKind.u64.wrap ((Y - 1 : Nat) : Int) = ((Y - 1 : Nat) : Int) := by rw [IntKind.wrap_u64]; omega
              obtain ⟨Y2, hY2⟩ : ∃ Y2, Y &&& (Y - 1) = Y2 := ⟨_, rfl⟩
              rw [hY2] at hand HST
              obtain ⟨u, hcell⟩ := HBUF.out.has s (by omega)
              have hfree := HBUF.out.free s
              have hs2 : s < rm := by omega
              have hs3 : (s : Int) < (rm : Int) := by omega
              clear h0 hsc2 hYlt hY2
              go_wp2_with fail
              refine (tz_any Y HYL.out HY0.out _ HTR.out).mono ?_
              rintro e w' ⟨rfl, rfl⟩
              obtain ⟨c, hc⟩ : ∃ c, Lib.ctz 64 Y = c := ⟨_, rfl⟩
              have HST2 := HST.out
              have HC2 := HC.out
              rw [hc] at HST2 HC2 hcR ⊢
              have HBS := HBUF.out.step (by rw [HS.out]; omega) ((64 * (q + 1 + j)) + c)
              rw [HS.out] at HBS
              have HST3 := Lib.hid HST2
              have hc64 : c < 64 := HC2
              have HCR := Lib.hid hcR
              have HV := Lib.hid (show ((q : Int) + 1 + (j : Int)) * 64 + (c : Int) = ((64 * (q + 1 + j) + c : Nat) : Int) by push_cast; omega)
              rw [← HV.out] at HBS
              have HBT := Lib.hid HBS
              clear HST HST2 HC HC2 hc hcR HBS
              by_cases hfull : s + 1 = rm
              · have he : ((s : Int) + 1 == (rm : Int)) = true := by simp; omega
                have hw1 : IntKind.i64.wrap ((s : Int) + 1 - 1) = (s : Int) := by rw [IntWalk.i64_in _ (by omega)]; omega
                have hw2 : (s : Int) + 1 - 1 = (s : Int) := by omega
                have hw3 : (0 : Int) ≤ (s : Int) := by omega
                have hw4 : (0 : Int) ≤ (s : Int) + 1 := by omega
                have hw5 : (s : Int) + 1 ≤ (rm : Int) := by omega
                have hsl := run_uint_to (some ⟨g2, 0, none⟩) rm rm (s + 1) .i64 ((s : Int) + 1) (by omega) (by omega)
                go_wp2_with fail
                go_quiet (fail)
                go_wp2_with fail
                go_ret2
                have hlt := HST3.out.top
                exact ManyIs.yes HST3.out.got (by have := HN.out; have := HCR.out; omega) (by rw [List.length_append, HS.out]; simp; omega) (by rw [List.length_append, HS.out, List.length_singleton]; omega) (by simp) (by push_cast; omega) (by omega) (HBT.out.drewN _)
              · have he : ((s : Int) + 1 == (rm : Int)) = false := by simp; omega
                cases gk with
                | zero => omega
                | succ k =>
                  go_wp2_with fail
                  go_roundg k
                  case measure => omega
                  case rel => exact ⟨cs ++ [(64 * (q + 1 + j)) + c], _, Y2, by rw [List.length_append, HS.out]; simp, rfl, by rw [List.length_append, HS.out]; simp; omega, by omega, HST3.out, HBT.out⟩


set_option maxRecDepth 100000 in
set_option maxHeartbeats 1000000 in
theorem nextmany_out (B p L i g2 rm B2 : Nat) (ws : List Nat) (w : World) (hb : Bs B w p L ws ws.length) (hn9 : ws.length ≤ 1000) (hi : i ≤ 100000) (hq0 : ws.length ≤ i / 64) (hrm : 1 ≤ rm) (hrm9 : rm ≤ 100)
    (xs0 : List Nat) (hown : w.ownsRow B2 22 1 (.slice (some ⟨g2, 0, none⟩) rm rm) rm (u64s xs0)) (hxs : xs0.length = rm) :
    Calls Tryd.prog 15 #[.pointer (some ⟨p, 0, none⟩), .int .u64 (i : Int), .slice (some ⟨g2, 0, none⟩) rm rm] w (ManyIs (Bsm.bit ws) (64 * ws.length) i w B2 g2 rm) := by
  obtain ⟨g, c0, c1, c2⟩ := hb.cells
  obtain ⟨n, hn⟩ : ∃ n, ws.length = n := ⟨_, rfl⟩
  obtain ⟨q, hq⟩ : ∃ q, i / 64 = q := ⟨_, rfl⟩
  have hqi : (i : Int) / 64 = (q : Int) := by omega
  have hbuf0 : Buf w B2 g2 rm [] w := ⟨xs0, hown, hxs, by simp, ⟨rfl, rfl, rfl, Nat.le_refl _, fun _ _ _ => rfl⟩⟩
  rw [hn, hq] at hq0
  have HN := Lib.hid hn
  have HQ := Lib.hid hq
  rw [hn] at c1 hn9
  have HB0 := Lib.hid hbuf0
  have hge : decide ((n : Int) ≤ (q : Int)) = true := by simp; omega
  have hsl0 := run_uint_to (some ⟨g2, 0, none⟩) rm rm 0 .i64 0 (by omega) (by omega)
  clear hb c0 c2 hn hown hxs hq hbuf0
  go_enter Tryd.func15, Tryd.ntmps15
  go_wp2_with fail
  go_quiet (fail)
  go_wp2_with fail
  go_ret2
  exact ManyIs.no (fun x h1 h2 => bit_past ws x (by have := HN.out; have := HQ.out; omega)) (HB0.out.drewN _)
end Go.Proofs.YtbcbkieebelleaaDoor
