/- impl.FHRun: a script on a new heap. -/
import Derived.Test.YtmhackiiiehlmaaFhStep
import Derived.Test.YtmhackiiiehlmaaFhPlain
import Derived.Test.YtmhackiiiehlmaaRow
import Derived.Test.YtmhackiiiehlmaaApRow
namespace Go.Proofs.Ytmhackiiiehlmaa
set_option linter.unusedVariables false
open Go.RowKit Fh

/-- what a step that decreases a priority does -/
def Step4C : Prop := ∀ (B hb : Nat) (F : List Nat) (L : List (Option Int)) (j : Nat) (p q : Int) (w : World), HsAt B w hb F L → L.length ≤ 500 → B ≤ w.heap.size → L[j]? = some (some q) → Sm p → p < q →
    Calls Try.prog 14 #[.pointer (some ⟨hb, 0, none⟩), stepV 4 (j : Int) p] w (StepPost B hb F true (j : Int) p (L.set j (some p)) w)
theorem step_any (step4_any : Step4C) (B hb : Nat) (F : List Nat) (L : List (Option Int)) (x : Int × Int × Int) (w : World) (h : HsAt B w hb F L) (hp : PreS x L) (hn : L.length ≤ 500) (hB : B ≤ w.heap.size) :
    Calls Try.prog 14 #[.pointer (some ⟨hb, 0, none⟩), stepV x.1 x.2.1 x.2.2] w fun e w' => ∃ L' is en q, One1 x L L' is q ∧ StepPost B hb F is en q L' w e w' := by
  obtain ⟨op, k, p⟩ := x
  rcases hp with ⟨e, hs⟩ | ⟨e, hs⟩ | ⟨e, j, q, e2, hj, hpq, hs⟩ | ⟨e, hs⟩
  · have e : op = 1 := e
    subst e
    exact (step1_any B hb F L k p w h hs hn hB).mono fun e w' h => ⟨_, _, _, _, .inl ⟨rfl, rfl, rfl⟩, h⟩
  · have e : op = 3 := e
    subst e
    exact (step3_any B hb F L k p w h hn hB hs).mono fun e w' ⟨j, q, h1, h2, h3⟩ => ⟨_, _, _, _, .inr (.inl ⟨rfl, ⟨j, h1, h2, rfl⟩, rfl⟩), h3⟩
  · have e : op = 4 := e
    have e2 : k = (j : Int) := e2
    subst e e2
    exact (step4_any B hb F L j p q w h hn hB hj hs hpq).mono fun e w' h => ⟨_, _, _, _, .inr (.inr (.inl ⟨rfl, ⟨j, rfl, rfl⟩, rfl⟩)), h⟩
  · have e : op = 2 := e
    subst e
    exact (step2_any B hb F L k p w h hn hB hs).mono fun e w' h => ⟨_, _, _, _, .inr (.inr (.inr ⟨rfl, rfl, rfl⟩)), h⟩
def sdL (u : Sd) : List Value := [.bool u.is, .int .i64 u.en, .int .i64 u.q, .int .i64 u.sz, .bool u.em]
def stepL (x : Int × Int × Int) : List Value := [.int .i64 x.1, .int .i64 x.2.1, .int .i64 x.2.2, .slice none 0 0]
theorem HsAt.below {B : Nat} {w w' : World} {hb : Nat} {F : List Nat} {L : List (Option Int)} (h : HsAt B w hb F L) (hw : Below w.heap.size w w') : HsAt B w' hb F L := by
  obtain ⟨hq, s, A, D, R, m, tp, n, c, Es, h1, h2, h3⟩ := h
  exact ⟨hq, s, A, D, R, m, tp, n, c, Es, h1.below hw, h2, h3⟩
theorem HsAt.base {B : Nat} {w : World} {hb : Nat} {F : List Nat} {L : List (Option Int)} (h : HsAt B w hb F L) : ∀ k ∈ F, B ≤ k ∧ k < w.heap.size := by
  obtain ⟨hq, s, A, D, R, m, tp, n, c, Es, h1, rfl, -⟩ := h
  intro k hk
  rcases List.mem_append.1 hk with hk | hk
  · refine ⟨h1.bA k hk, ?_⟩
    rcases List.mem_cons.1 hk with rfl | hk
    · exact h1.hk.lt
    · rcases List.mem_cons.1 hk with rfl | hk
      · exact h1.hp.2.2.2.2.lt
      · exact h1.hp.1.lt k hk
  · have := own_lt h1.ho k hk
    exact ⟨this.2, this.1⟩
/-- rows of another type lie apart from the heap -/
theorem HsAt.row {B : Nat} {w : World} {hb : Nat} {F : List Nat} {L : List (Option Int)} (h : HsAt B w hb F L) {B' : Nat} {z n' : Nat} {v : Value} {xs : List Value} (ho : w.ownsRow B' 37 z v n' xs) : ∀ k ∈ obl v, k ∉ F := by
  obtain ⟨hq, s, A, D, R, m, tp, n, c, Es, h1, rfl, -⟩ := h
  intro k hk hm
  have hk' := mem_obl.1 hk
  rcases List.mem_append.1 hm with hm | hm
  · rcases List.mem_cons.1 hm with rfl | hm
    · exact row_blk ho h1.hk (by decide) hk'
    · rcases List.mem_cons.1 hm with rfl | hm
      · exact row_blk ho h1.hp.2.2.2.2 (by decide) hk'
      · exact row_blk ho (h1.hp.1 k hm) (by decide) hk'
  · exact row_row ho h1.ho (by decide) k hk hm
theorem Hs.fr {B : Nat} {w w' : World} {hb hq : Nat} {s : St} {A D R : List Nat} {m : Option Nat} {tp : Option Addr} {n c : Nat} {Es : List (Option Nat)} (h : Hs B w hb hq s A D R m tp n c Es) {G G' : List Nat} (hf : Fr G G' w w') (hd : ∀ k ∈ hb :: hq :: A ++ obl (.slice tp n c), k ∉ G) : Hs B w' hb hq s A D R m tp n c Es := by
  obtain ⟨q1, q2, q3, q4, q5⟩ := h.hp
  exact ⟨⟨fun b hb => hf.blk (q1 b hb) (hd b (by simp [hb])), q2, q3, q4, hf.blk q5 (hd hq (by simp))⟩, hf.blk h.hk (hd _ (by simp)), hf.own h.ho (fun k hk => hd k (List.mem_append_right _ hk)), h.de, h.un, h.bA⟩
theorem HsAt.fr {B : Nat} {w w' : World} {hb : Nat} {F : List Nat} {L : List (Option Int)} (h : HsAt B w hb F L) {G G' : List Nat} (hf : Fr G G' w w') (hd : ∀ k ∈ F, k ∉ G) : HsAt B w' hb F L := by
  obtain ⟨hq, s, A, D, R, m, tp, n, c, Es, h1, rfl, h3⟩ := h
  exact ⟨hq, s, A, D, R, m, tp, n, c, Es, h1.fr hf hd, rfl, h3⟩
theorem fr_grown {w w' : World} {v : Value} (h : w.grownBy w' v.ownBlock) : Fr (obl v) [] w w' :=
  ⟨h.os, h.tape, h.output, h.size, fun k hk hn => h.block k hk (fun e => hn (mem_obl.2 e.symm)), fun k hk => (by cases hk)⟩
theorem Hs.empty {B : Nat} {w : World} {hb hq : Nat} {s : St} {A D R : List Nat} {m : Option Nat} {tp : Option Addr} {n c : Nat} {Es : List (Option Nat)} (h : Hs B w hb hq s A D R m tp n c Es) (hn : allNone (Es.map (Option.map s.pr))) : decide (D.length = 0) = true := by
  rw [decide_eq_true_eq]
  cases hD : D with
  | nil => rfl
  | cons x D' =>
    obtain ⟨j, hj⟩ := List.getElem?_of_mem ((h.de x).1 (by rw [hD]; simp))
    exact absurd (pr_at (s := s) hj) (hn j _)
/-- behind region 8 -/
def SaidBox (B : Nat) (w2 : World) (hb : Nat) (F' : List Nat) (L' : List (Option Int)) (is : Bool) (en q : Int) (wx : World) : Prop :=
  ∃ sz em, HsAt B wx hb F' L' ∧ Blk wx w2.heap.size 37 #[.bool is, .int .i64 en, .int .i64 q, .int .i64 sz, .bool em] ∧ Below w2.heap.size w2 wx ∧ (allNone L' → em = true)
theorem info_said : (Try.prog.info? 37).map (fun i => (i.zero, i.size, i.bytes)) = some (some (.agg #[.bool false, .int .i64 0, .int .i64 0, .int .i64 0, .bool false]), 5, 40) := by kernel_rfl
/-- what FHRun does -/
def RunPost (S : List (Int × Int × Int)) (w : World) (e : Ending) (w' : World) : Prop :=
  ∃ (pa : Option Addr) (ca : Nat) (U : List Sd) (L : List (Option Int)), e = .returned (.slice pa S.length ca) ∧ w'.ownsRow w.heap.size 37 5 (.slice pa S.length ca) S.length (U.map sdL).flatten ∧ RunsTo [] S U L ∧ Below w.heap.size w w'
set_option maxRecDepth 100000 in
theorem newheap_any (w : World) : Calls Try.prog 13 #[] w fun e w' => e = .returned (.agg #[.pointer none, .int .u64 0]) ∧ Below w.heap.size w w' := by
  go_enter Try.func13, Try.ntmps13
  go_wp2_with fail
  refine bodyPost_ret (v := .agg #[.pointer none, .int .u64 0]) (by simp [results, Try.results13, go_sem]) rfl ?_
  exact ⟨rfl, (Below.refl _ _).alloc (Nat.le_refl _) _⟩
def s0 : St := ⟨fun x => x, fun x => x, fun _ => none, fun _ => none, fun _ => 0, fun _ => false, fun _ => 0⟩
theorem hs_new (w : World) (B hq hb : Nat) (h1 : Blk w hq 44 #[.pointer none, .int .u64 0]) (h2 : Blk w hb 50 #[.pointer (some ⟨hq, 0, none⟩), .slice none 0 0]) (hB1 : B ≤ hq) (hB2 : B ≤ hb) : HsAt B w hb [hb, hq] [] := by
  refine ⟨hq, s0, [], [], [], none, none, 0, 0, [], ⟨⟨fun b hb => (by cases hb), fun b hb => (by cases hb), ⟨⟨fun _ => [], fun _ => none, ?_, fun x hx => (by cases hx), fun x hx => (by cases hx)⟩, List.nodup_nil, fun b hb => (by cases hb)⟩, rfl, h1⟩, h2, World.ownsRow_nil _ _ _ _, fun b => by simp, fun b j k hj => by simp at hj, fun k hk => ?_⟩, rfl, rfl⟩
  · exact ⟨trivial, trivial, fun b hb => (by cases hb), fun b hb => (by cases hb), fun b hb => (by cases hb), fun x => by simp, fun b hb => (by cases hb), fun x hx => (by cases hx), List.nodup_nil, fun b hb => (by cases hb), fun _ => 0, fun x hx => (by cases hx)⟩
  · rcases List.mem_cons.1 hk with rfl | hk
    · exact hB2
    · rw [List.mem_singleton.1 hk]; exact hB1
set_option maxRecDepth 100000 in
set_option maxHeartbeats 4000000 in
theorem fhrun_any (h4 : Step4C) (S : List (Int × Int × Int)) (sv : Value) (w : World) (hS : Rw 4 w sv (S.map stepL)) (hc : CanS S) (hl : S.length ≤ 400) :
    Calls Try.prog 9 #[sv] w (RunPost S w) := by
  have HSv := Lib.hid hS
  obtain ⟨sa, sn, scp, rfl, hsn, hscp, hscm, hsr⟩ := hS
  rw [List.length_map] at hsn
  have HC := Lib.hid hc
  have HSN := Lib.hid hsn
  have H4 := Lib.hid h4
  clear hc hsr hscp hscm
  go_enter Try.func9, Try.ntmps9
  go_wp2_with fail
  refine (newheap_any w).mono ?_
  rintro e w1 ⟨rfl, hb1⟩
  have HB1 := Lib.hid hb1
  have hs1 : w.heap.size ≤ w1.heap.size := hb1.size
  clear hb1
  go_wp2_with fail
  go_loopg [5, 14] sn (fun kk s5 s14 wr => ∃ (i : Nat) (pa : Option Addr) (ca : Nat) (U : List Sd) (L : List (Option Int)) (F : List Nat), i + kk = sn ∧ s14 = .int .i64 (i : Int) ∧ s5 = .slice pa i ca ∧ wr.ownsRow w.heap.size 37 5 (.slice pa i ca) i (U.map sdL).flatten ∧ RunsTo [] (S.take i) U L ∧ HsAt w.heap.size wr (w1.heap.size + 1) F L ∧ Below w.heap.size w wr)
  case atStart =>
    refine ⟨0, none, 0, [], [], _, by omega, rfl, rfl, World.ownsRow_nil _ _ _ _, ⟨rfl, rfl⟩, hs_new _ _ w1.heap.size _ ((Blk.new w1 _ _).alloc _) ?_ hs1 (by omega), (HB1.out.alloc hs1 _).alloc (by rw [World.size_alloc]; omega) _⟩
    have q := Blk.new (w1.alloc (.cells #[.pointer none, .int .u64 0] 44)) 50 #[.pointer (some ⟨w1.heap.size, 0, none⟩), .slice none 0 0]
    rw [World.size_alloc] at q
    exact q
  case round =>
    obtain ⟨i, pa, ca, U, L, F, hik, rfl, rfl, hown, hrun, hat, hbel⟩ := hrel
    obtain ⟨B, hB⟩ : ∃ B, w.heap.size = B := ⟨_, rfl⟩
    obtain ⟨hb, hhb⟩ : ∃ hb, w1.heap.size + 1 = hb := ⟨_, rfl⟩
    rw [hB] at hown hat hbel
    rw [hhb] at hat ⊢
    have HHB := Lib.hid hhb
    have HBB := Lib.hid hB
    have HOW := Lib.hid hown
    have HRUN := Lib.hid hrun
    have HAT := Lib.hid hat
    have HBEL := Lib.hid hbel
    have hBr : B ≤ wr.heap.size := by have := hbel.size; rw [hB] at this; exact this
    have hbel1 : Below w.heap.size w wr := by rw [hB]; exact hbel
    by_cases hi : i < sn
    · obtain ⟨sa2, sn2, sc2, e1, hl2, -, -, hr2⟩ := HSv.out
      injection e1 with e1 e2 e3
      subst e1 e2 e3
      obtain ⟨bV, oV, rfl, hcV⟩ := hr2 (by omega)
      have hil : i < S.length := by rw [HSN.out]; exact hi
      obtain ⟨x, hx⟩ : ∃ x, S[i]? = some x := ⟨_, List.getElem?_eq_getElem hil⟩
      have hrow : (S.map stepL)[i]? = some (stepL x) := by rw [List.getElem?_map, hx]; rfl
      have q0 := hcV i _ hrow 0 _ rfl
      have q1 := hcV i _ hrow 1 _ rfl
      have q2 := hcV i _ hrow 2 _ rfl
      have q3 := hcV i _ hrow 3 _ rfl
      rw [← hbel1.cell (World.block_lt_of_cell? w _ q0)] at q0
      rw [← hbel1.cell (World.block_lt_of_cell? w _ q1)] at q1
      rw [← hbel1.cell (World.block_lt_of_cell? w _ q2)] at q2
      rw [← hbel1.cell (World.block_lt_of_cell? w _ q3)] at q3
      rw [Nat.add_zero] at q0
      rw [← Nat.add_assoc] at q1 q2 q3
      obtain ⟨hpre, hLl⟩ := HC.out i x U L hx hrun
      have htk : S.take (i + 1) = S.take i ++ [x] := by rw [List.take_add_one, hx]; rfl
      have HTK := Lib.hid htk
      obtain ⟨F', hF'⟩ : ∃ F', F' = F := ⟨_, rfl⟩
      have HPRE := Lib.hid hpre
      have HLL := Lib.hid hLl
      clear hown hrun hat hbel hbel1 hcV hr2 hl2 hil hx hrow hpre hLl htk hF' hB hhb
      obtain ⟨wb, hwb⟩ : ∃ wb, wb = wr.alloc (.cells #[.int .i64 x.1, .int .i64 x.2.1, .int .i64 x.2.2, .slice none 0 0] 32) := ⟨_, rfl⟩
      have hbb : Below wr.heap.size wr wb := by rw [hwb]; exact (Below.refl _ _).alloc (Nat.le_refl _) _
      have HST := Lib.hid (step_any H4.out B hb F L x wb (HAT.out.below hbb) HPRE.out HLL.out (Nat.le_trans hBr hbb.size))
      unfold stepV at HST
      have HBBW := Lib.hid hbb
      have HWB := Lib.hid hwb
      clear hbb
      go_wp2_with fail
      rw [← HWB.out]
      refine HST.out.mono ?_
      rintro e w2 ⟨L', is, en, q, h1, rfl, F', hat', hf'⟩
      have hown2 : w2.ownsRow B 37 5 (.slice pa i ca) i (U.map sdL).flatten := hf'.own ((Fr.of_below [] HBBW.out).own HOW.out (fun _ _ h => by cases h)) (fun k hk hm => HAT.out.row HOW.out k hk hm)
      have hbel2 : Below B wr w2 := (HBBW.out.mono hBr).trans (hf'.below (fun k hk => ((HAT.out.below HBBW.out).base k hk).1) (Nat.le_trans hBr HBBW.out.size))
      have HH1 := Lib.hid h1
      have HAT2 := Lib.hid hat'
      have HOW2 := Lib.hid hown2
      have HBL2 := Lib.hid hbel2
      have hB2 : B ≤ w2.heap.size := Nat.le_trans hBr hbel2.size
      clear h1 hat' hf' hown2 hbel2 HST q0 q1 q2 q3 hwb HWB HBBW
      unfold saidV
      go_upto_region 8 with fail
      obtain ⟨w3, hw3⟩ : ∃ w3, w3 = w2.alloc (.cells #[.bool is, .int .i64 en, .int .i64 q, .int .i64 0, .bool false] 37) := ⟨_, rfl⟩
      have hb3 : Below w2.heap.size w2 w3 := by rw [hw3]; exact (Below.refl _ _).alloc (Nat.le_refl _) _
      have hsb : Blk w3 w2.heap.size 37 #[.bool is, .int .i64 en, .int .i64 q, .int .i64 0, .bool false] := by rw [hw3]; exact Blk.new w2 _ _
      rw [← hw3]
      have hsz3 : w3.heap.size = w2.heap.size + 1 := by rw [hw3, World.size_alloc]
      clear hw3
      obtain ⟨hq, s', A', D', R', m', tp', n', c', Es', hs', hF', hL'⟩ := HAT2.out
      have hs3 := hs'.below hb3
      have hk0 := hs3.hk.cell 0 rfl
      have HEM : Hid (allNone L' → decide (D'.length = 0) = true) := Lib.hid (fun hn => hs3.empty (by rw [← hL']; exact hn))
      have HSZ := Lib.hid (fun w hk => size_any hq (pt m') D'.length w hk)
      have HIE := Lib.hid (fun w hk => isempty_any hq (pt m') D'.length w hk)
      have HHK := Lib.hid hs3.hp.2.2.2.2
      have HS3 := Lib.hid hs3
      have HFF := Lib.hid hF'
      have HLL' := Lib.hid hL'
      have HSB := Lib.hid hsb
      have HB3 := Lib.hid hb3
      have b3 := hsb.cell 3 rfl
      have b4 := hsb.cell 4 rfl
      have g3 := hsb.free 3
      have g4 := hsb.free 4
      have hhb3 := hs3.hk.lt
      obtain ⟨dn, hdn⟩ : ∃ dn, D'.length = dn := ⟨_, rfl⟩
      obtain ⟨em, hem⟩ : ∃ em, decide (dn = 0) = em := ⟨_, rfl⟩
      rw [hdn] at HEM HSZ HIE HHK
      rw [hem] at HEM HIE
      clear hs' hF' hL' hs3 hsb hb3 hdn hem
      have HFIN : Hid (SaidBox B w2 hb F' L' is en q ((w3.setCell ⟨w2.heap.size, 3, none⟩ (.int .i64 (IntKind.i64.wrap (dn : Int)))).setCell ⟨w2.heap.size, 4, none⟩ (.bool em)).drew) := Lib.hid (by
        have r1 := HSB.out.set 3 (.int .i64 (IntKind.i64.wrap (dn : Int)))
        refine ⟨IntKind.i64.wrap (dn : Int), em, ⟨hq, s', A', D', R', m', tp', n', c', Es', ?_, HFF.out, HLL'.out⟩, r1.set 4 (.bool em), ?_, HEM.out⟩
        · have h := (HS3.out.res HSB.out 3 (.int .i64 (IntKind.i64.wrap (dn : Int)))).res r1 4 (.bool em)
          exact ⟨h.hp, h.hk, h.ho, h.de, h.un, h.bA⟩
        · exact ((HB3.out.setCell (p := ⟨w2.heap.size, 3, none⟩) (Nat.le_refl _) _).setCell (p := ⟨w2.heap.size, 4, none⟩) (Nat.le_refl _) _).drew)
      go_cut [8] from 21 to 33 (fun s8 wx => s8 = .pointer (some ⟨w2.heap.size, 0, none⟩) ∧ SaidBox B w2 hb F' L' is en q wx)
      case first =>
        go_region_law (first | (go_simp; go_at_call 15; refine Calls.mono (HSZ.out _ HHK.out) ?_; rintro e w4 ⟨rfl, rfl⟩) | (go_simp; go_at_call 16; refine Calls.mono (HIE.out _ HHK.out) ?_; rintro e w4 ⟨rfl, rfl⟩) | fail)
        all_goals (try go_wp2_with fail)
        all_goals
          go_meet
          exact ⟨rfl, HFIN.out⟩
      case rest =>
        obtain ⟨rfl, sz, em', hat9, hsb9, hb9, hem9⟩ := hcut
        obtain ⟨w5, rfl⟩ : ∃ y, y = wc := ⟨_, rfl⟩
        have hown5 : w5.ownsRow B 37 5 (.slice pa i ca) i (U.map sdL).flatten := (Fr.of_below [] hb9).own HOW2.out (fun _ _ h => by cases h)
        have d0 := hsb9.cell 0 rfl
        have d1 := hsb9.cell 1 rfl
        have d2 := hsb9.cell 2 rfl
        have d3 := hsb9.cell 3 rfl
        have d4 := hsb9.cell 4 rfl
        have hB5 : B ≤ w5.heap.size := Nat.le_trans hB2 hb9.size
        have HAT9 := Lib.hid hat9
        have HOW5 := Lib.hid hown5
        have HB9 := Lib.hid hb9
        have HEM9 := Lib.hid hem9
        have hONE : ∀ u ∈ (#[Value.bool is, .int .i64 en, .int .i64 q, .int .i64 sz, .bool em'] : Array Value).toList, u.oneCell' = true := by
          intro u hu
          simp at hu
          rcases hu with rfl | rfl | rfl | rfl | rfl <;> rfl
        have HON := Lib.hid hONE
        clear hat9 hsb9 hb9 hem9 hown5 HFIN HSB HB3 HS3 b3 b4 g3 g4 hk0 hONE HSZ HIE HHK
        go_wp2_with (at_builtin; refine wpList_appendS rfl _ _ 34 rfl B 5 37 (.agg #[.bool false, .int .i64 0, .int .i64 0, .int .i64 0, .bool false]) 40 Try.underlying34 info_said rfl (by decide) (.slice pa i ca) i ((U.map sdL).flatten) rfl HOW5.out #[.bool is, .int .i64 en, .int .i64 q, .int .i64 sz, .bool em'] rfl rfl HON.out (by unfold maxLen; omega) (by omega) hB5 ?_; intro g7 cap7 w7 hown7 hg7 hb7; have HO7 := Lib.hid hown7; have HG7 := Lib.hid hg7; have HB7 := Lib.hid hb7; clear hown7 hg7 hb7)
        have hfr7 := fr_grown HG7.out
        have hat7 := HAT9.out.fr hfr7 (fun k hk hm => HAT9.out.row HOW5.out k hm hk)
        have hrun7 : RunsTo [] (S.take (i + 1)) (U ++ [(⟨is, en, q, sz, em'⟩ : Sd)]) L' := by
          rw [HTK.out]
          exact runs_snoc HRUN.out ⟨HH1.out, HEM9.out⟩
        have hown7 : w7.ownsRow B 37 5 (.slice (some ⟨g7, 0, none⟩) (i + 1) cap7) (i + 1) ((U ++ [(⟨is, en, q, sz, em'⟩ : Sd)]).map sdL).flatten := by
          have h := HO7.out
          rw [List.map_append, List.flatten_append]
          have e : (List.map sdL [(⟨is, en, q, sz, em'⟩ : Sd)]).flatten = (#[Value.bool is, .int .i64 en, .int .i64 q, .int .i64 sz, .bool em'] : Array Value).toList := rfl
          rw [e]
          exact h
        have hbel7 : Below B w w7 := ((HBEL.out.trans HBL2.out).trans (HB9.out.mono hB2)).trans HB7.out
        have HAT7 := Lib.hid hat7
        have HRN7 := Lib.hid hrun7
        have HOW7 := Lib.hid hown7
        have HBL7 := Lib.hid hbel7
        clear hfr7 hat7 hrun7 hown7 hbel7
        have hhb := HHB.out
        subst hhb
        go_roundg (gk - 1)
        case measure => omega
        case rel => exact ⟨i + 1, some ⟨g7, 0, none⟩, cap7, U ++ [(⟨is, en, q, sz, em'⟩ : Sd)], L', F', by omega, rfl, rfl, by rw [HBB.out]; exact HOW7.out, HRN7.out, by rw [HBB.out]; exact HAT7.out, by rw [HBB.out]; exact HBL7.out⟩
    · have hin : i = sn := by omega
      have HIN := Lib.hid hin
      clear hown hrun hat hbel
      go_wp2_with fail
      go_ret
      refine ⟨pa, ca, U, L, by rw [HSN.out, HIN.out]; rfl, ?_, ?_, by rw [HBB.out]; exact HBEL.out⟩
      · rw [HSN.out, HBB.out, ← HIN.out]; exact HOW.out
      · have h := HRUN.out
        rwa [List.take_of_length_le (by rw [HSN.out, HIN.out]; exact Nat.le_refl _)] at h
end Go.Proofs.Ytmhackiiiehlmaa
