/- Sparse bit arrays in memory; walks of SetBit (printed by gen_ba_set.py). -/
import Derived.Test.YtgifbdjifmoafaaGreatBaIns2
import Derived.StillTailTactics
namespace Go.Proofs.YtgifbdjifmoafaaGreat
set_option linter.unusedVariables false
open Go.RowKit Bam

/-- block p is a sparse array with the pairs ps; F are its blocks -/
def SpAt (w : World) (p : Nat) (F : List Nat) (ps : Ps) : Prop :=
  ∃ (a1 : Option Addr) (c1 : Nat) (a2 : Option Addr) (c2 : Nat), Blk w p 111 #[.slice a1 ps.length c1, .slice a2 ps.length c2] ∧ Ue 87 w (.slice a1 ps.length c1) (ps.map Prod.snd) ∧ Us w (.slice a2 ps.length c2) (ps.map Prod.fst) ∧
    F = p :: (obl (.slice a1 ps.length c1) ++ obl (.slice a2 ps.length c2))

theorem pos_sAt (ps : Ps) (i : Nat) : pos ps i = sAt (ps.map Prod.fst) i := by
  unfold pos sAt
  rw [List.takeWhile_map, List.length_map]
  rfl
theorem map_getD_fst (ps : Ps) (r : Nat) (h : r < ps.length) : (ps.map Prod.fst).getD r 0 = (ps[r]).1 := by simp [List.getD_eq_getElem?_getD, h]
theorem map_getD_snd (ps : Ps) (r : Nat) (h : r < ps.length) : (ps.map Prod.snd).getD r 0 = (ps[r]).2 := by simp [List.getD_eq_getElem?_getD, h]

theorem SpAt.frame {w w' : World} {p : Nat} {F G G' : List Nat} {ps : Ps} (h : SpAt w p F ps) (hf : Fr G G' w w') (hd : ∀ k ∈ F, k ∉ G) : SpAt w' p F ps := by
  obtain ⟨a1, c1, a2, c2, h1, h2, h3, rfl⟩ := h
  exact ⟨a1, c1, a2, c2, hf.blk h1 (hd p List.mem_cons_self), hf.own h2 (fun k hk => hd k (List.mem_cons_of_mem _ (List.mem_append.2 (.inl hk)))), hf.own h3 (fun k hk => hd k (List.mem_cons_of_mem _ (List.mem_append.2 (.inr hk)))), rfl⟩
theorem SpAt.lt {w : World} {p : Nat} {F : List Nat} {ps : Ps} (h : SpAt w p F ps) : ∀ k ∈ F, k < w.heap.size := by
  obtain ⟨a1, c1, a2, c2, h1, h2, h3, rfl⟩ := h
  intro k hk
  rcases List.mem_cons.1 hk with e | e
  · rw [e]; exact h1.lt
  · rcases List.mem_append.1 e with e | e
    · exact (own_lt h2 k e).1
    · exact (own_lt h3 k e).1
theorem SpAt.below {w w' : World} {p : Nat} {F : List Nat} {ps : Ps} (h : SpAt w p F ps) (hb : Below w.heap.size w w') : SpAt w' p F ps := by
  refine h.frame (Fr.of_below [] hb) (fun k _ h => by simp at h)
theorem SpAt.drewN {w : World} {p : Nat} {F : List Nat} {ps : Ps} (h : SpAt w p F ps) (n : Nat) : SpAt (w.drewN n) p F ps := h

/-- the last step of SetBit: a word is turned -/
theorem set_pairs {ps : Ps} {r : Nat} (hr : r < ps.length) (x : Nat) : (ps.set r ((ps[r]).1, x)).map Prod.fst = ps.map Prod.fst ∧ (ps.set r ((ps[r]).1, x)).map Prod.snd = (ps.map Prod.snd).set r x := by
  constructor
  · rw [List.map_set]
    apply List.ext_getElem?
    intro q
    by_cases e : q = r
    · subst e; simp [hr]
    · rw [List.getElem?_set_ne (fun h => e h.symm)]
  · rw [List.map_set]
theorem u64s_set (ws : List Nat) (q y : Nat) : (u64s ws).set q (.int .u64 (y : Int)) = u64s (ws.set q y) := by simp [u64s, List.map_set]

/-- a word of a sparse array is written -/
theorem SpAt.word {w : World} {p : Nat} {ps : Ps} {g1 c1 c2 n : Nat} {a2 : Option Addr} (hn : n = ps.length) (h1 : Blk w p 111 #[.slice (some ⟨g1, 0, none⟩) n c1, .slice a2 n c2]) (h2 : Ue 87 w (.slice (some ⟨g1, 0, none⟩) n c1) (ps.map Prod.snd)) (h3 : Us w (.slice a2 n c2) (ps.map Prod.fst)) {r : Nat} (hr : r < ps.length) (x : Nat) :
    SpAt (w.setCell ⟨g1, r, none⟩ (.int .u64 (x : Int))) p (p :: (obl (.slice (some ⟨g1, 0, none⟩) n c1) ++ obl (.slice a2 n c2))) (ps.set r ((ps[r]).1, x)) ∧ Fr [g1] [g1] w (w.setCell ⟨g1, r, none⟩ (.int .u64 (x : Int))) := by
  subst hn
  have hpg : p ≠ g1 := fun e => row_blk h2 h1 (by decide) (by rw [e]; rfl)
  have hs := set_pairs hr x
  have hst := World.ownsRow.stored (Ue.to h2 (by simp) : w.ownsRow 0 _ 1 _ ps.length _) r (.int .u64 (x : Int))
  rw [u64s_set, ← hs.2] at hst
  have hf := Fr.of_grown_same hst.2
  refine ⟨⟨some ⟨g1, 0, none⟩, c1, a2, c2, ?_, ?_, ?_, ?_⟩, hf⟩
  · rw [List.length_set]; exact h1.other (a := ⟨g1, r, none⟩) hpg _
  · rw [List.length_set]; exact Ue.of hst.1
  · rw [List.length_set, hs.1]
    exact hf.own h3 (row_row h3 h2 (by decide))
  · rw [List.length_set]

set_option maxRecDepth 100000 in
set_option maxHeartbeats 2000000 in
theorem setbit_new (p : Nat) (F : List Nat) (ps : Ps) (k : Nat) (w : World) (h : SpAt w p F ps) (hok : Ok ps) (hn : ps.length ≤ 1000) (hk : k < 18446744073709551616) (hnew : ∀ q, ps[pos ps (k / 64)]? = some q → q.1 ≠ k / 64) :
    Calls Tryz.prog 122 #[.pointer (some ⟨p, 0, none⟩), .int .u64 (k : Int)] w fun e w' => e = .returned .nilIface ∧ ∃ F', SpAt w' p F' (setB ps k) ∧ Fr F F' w w' := by
  obtain ⟨a1, c1, a2, c2, h1, h2, h3, rfl⟩ := h
  have hps := pos_sAt ps (k / 64)
  obtain ⟨r, hr0⟩ : ∃ r, r = pos ps (k / 64) := ⟨_, rfl⟩
  obtain ⟨i, hi⟩ : ∃ i, i = k / 64 := ⟨_, rfl⟩
  obtain ⟨j, hj0⟩ : ∃ j, j = k % 64 := ⟨_, rfl⟩
  obtain ⟨n, hN⟩ : ∃ n, n = ps.length := ⟨_, rfl⟩
  have hj : j < 64 := by rw [hj0]; exact Nat.mod_lt _ (by decide)
  have hi64 : i < 18446744073709551616 := by omega
  have hrn : r ≤ n := by rw [hr0, hN]; exact pos_le ps _
  have hir := idxrem_any k hk w
  have he : setB ps k = ps.take r ++ (i, 2 ^ j) :: ps.drop r := by
    unfold setB
    rw [ins_new hok hnew, look_new hok hnew, Nat.zero_or, hr0, hi, hj0]
  rw [he]
  have hro : r = n ∨ (r < n ∧ (ps.map Prod.fst).getD r 0 ≠ i) := by
    by_cases h : r < n
    · refine .inr ⟨h, ?_⟩
      rw [map_getD_fst ps r (by omega), hi]
      exact hnew _ (by rw [← hr0]; exact List.getElem?_eq_getElem (by omega))
    · exact .inl (by omega)
  rw [← hr0, ← hi] at hps
  rw [← hi, ← hj0] at hir
  rw [← hN] at h1 h2 h3 hn ⊢
  have HPS := Lib.hid hps
  have HIR := Lib.hid hir
  have HB0 := Lib.hid h1
  have HW0 := Lib.hid h2
  have HI0 := Lib.hid h3
  have HN := Lib.hid hN
  have hlen1 : (ps.map Prod.fst).length = n := by rw [List.length_map, hN]
  have HL1 := Lib.hid hlen1
  have HOK := Lib.hid hok
  have hui : Calls Tryz.prog 133 #[.pointer (some ⟨p, 1, none⟩), .int .u64 (i : Int)] w fun e w' => e = .returned (.tuple #[.int .i64 (r : Int), .bool true]) ∧
      ∃ a' cap', Us w' (.slice a' (n + 1) cap') (insAt (ps.map Prod.fst) r i) ∧ Blk w' p 111 #[.slice a1 n c1, .slice a' (n + 1) cap'] ∧ Fr (p :: obl (.slice a2 n c2)) (p :: obl (.slice a' (n + 1) cap')) w w' := by
    rcases hro with e | ⟨e1, e2⟩
    · exact uinsert_end p 1 _ _ a2 n c2 _ i r w h1 rfl (by decide) h3 hlen1.symm (by omega) hok.1 hps.symm e
    · exact uinsert_new p 1 _ _ a2 n c2 _ i r w h1 rfl (by decide) h3 hlen1.symm (by omega) hok.1 hps.symm e1 e2
  have HUI := Lib.hid hui
  clear h1 h2 h3 hN hr0 hi hj0 hps hir hui hro hlen1 he hnew hok
  go_enter Tryz.func122, Tryz.ntmps122
  go_wp2_with fail
  refine HIR.out.mono ?_
  rintro e w0 ⟨rfl, rfl⟩
  go_wp2_with fail
  refine HUI.out.mono ?_
  rintro e w1 ⟨rfl, a', cap', hU1, hB1, hF1⟩
  have hW1 : Ue 87 w1 (.slice a1 n c1) (ps.map Prod.snd) := hF1.own HW0.out (fun k hk hk2 => by
    rcases List.mem_cons.1 hk2 with e | e
    · rw [e, mem_obl] at hk; exact row_blk HW0.out HB0.out (by decide) hk
    · exact row_row HW0.out HI0.out (by decide) k hk e)
  have hbi : Calls Tryz.prog 134 #[.pointer (some ⟨p, 0, none⟩), .int .i64 (r : Int)] w1 fun e w' => e = .returned (.tuple #[]) ∧
      ∃ b' cb', Ue 87 w' (.slice b' (n + 1) cb') (insAt (ps.map Prod.snd) r 0) ∧ Blk w' p 111 #[.slice b' (n + 1) cb', .slice a' (n + 1) cap'] ∧ Fr (p :: obl (.slice a1 n c1)) (p :: obl (.slice b' (n + 1) cb')) w1 w' := by
    have hl2 : n = (ps.map Prod.snd).length := by rw [List.length_map]; exact HN.out
    by_cases e : r = n
    · exact blinsert_end p 0 _ _ a1 n c1 _ r w1 hB1 rfl (by decide) hW1 hl2 (by omega) e
    · exact blinsert_new p 0 _ _ a1 n c1 _ r w1 hB1 rfl (by decide) hW1 hl2 (by omega) (by omega)
  have HBI := Lib.hid hbi
  have HU1 := Lib.hid hU1
  have HF1 := Lib.hid hF1
  have HW1 := Lib.hid hW1
  have HB1 := Lib.hid hB1
  clear hbi hU1 hF1 hW1 hB1
  go_wp2_with fail
  refine HBI.out.mono ?_
  rintro e w2 ⟨rfl, b', cb', hW2, hB2, hF2⟩
  have hU2 : Us w2 (.slice a' (n + 1) cap') (insAt (ps.map Prod.fst) r i) := hF2.own HU1.out (fun k hk hk2 => by
    rcases List.mem_cons.1 hk2 with e | e
    · rw [e, mem_obl] at hk; exact row_blk HU1.out HB1.out (by decide) hk
    · exact row_row HU1.out HW1.out (by decide) k hk e)
  obtain ⟨qs, hqs⟩ : ∃ qs : Ps, qs = ps.take r ++ (i, 0) :: ps.drop r := ⟨_, rfl⟩
  have hql : n + 1 = qs.length := by rw [hqs, List.length_append, List.length_cons, List.length_take, List.length_drop, ← HN.out]; omega
  have hq1 : qs.map Prod.fst = insAt (ps.map Prod.fst) r i := by rw [hqs]; simp [insAt, List.map_take, List.map_drop]
  have hq2 : qs.map Prod.snd = insAt (ps.map Prod.snd) r 0 := by rw [hqs]; simp [insAt, List.map_take, List.map_drop]
  have hqr : qs[r]? = some (i, 0) := by
    rw [hqs, List.getElem?_append_right (by rw [List.length_take]; omega), List.length_take, ← HN.out, show r - min r n = 0 from by omega]; rfl
  have hqq : ∀ x, qs.set r (i, x) = ps.take r ++ (i, x) :: ps.drop r := fun x => by
    have hlt : (ps.take r).length = r := by rw [List.length_take, ← HN.out]; omega
    rw [hqs, List.set_append_right _ _ (by omega), hlt, Nat.sub_self]; rfl
  rw [← hq1] at hU2
  rw [← hq2] at hW2
  have hgb : ∃ g1, b' = some ⟨g1, 0, none⟩ := by
    rcases hW2.cases with ⟨e, e2⟩ | ⟨g, cap, e, _⟩
    · have := congrArg List.length e2; rw [List.length_map, ← hql] at this; simp at this
    · injection e with e; exact ⟨g, e⟩
  obtain ⟨g1, rfl⟩ := hgb
  have hrq : r < qs.length := by omega
  have hst := SpAt.word hql hB2 hW2 hU2 hrq (2 ^ j)
  have hri : qs[r].1 = i := by have := (List.getElem?_eq_some_iff.1 hqr).2; rw [this]
  rw [hri, hqq] at hst
  have hwc : w2.cell? ⟨g1, r, none⟩ = some (.int .u64 ((0 : Nat) : Int)) := by
    rcases hW2.cases with ⟨e, e2⟩ | ⟨g, cap, e, _, _, _, hcell⟩
    · cases e
    · injection e with e
      injection e with e
      injection e with e
      subst e
      have := hcell r (by rw [List.length_map]; exact hrq)
      rw [map_getD_snd qs r hrq] at this
      have h0 := (List.getElem?_eq_some_iff.1 hqr).2
      rw [h0] at this
      exact this
  have hwf : w2.frozen? ⟨g1, r, none⟩ = false := World.ownsRow.frozenAt (hW2.to (n := n + 1) (by rw [List.length_map]; exact hql)) r
  have c0 : w2.cell? ⟨p, 0, none⟩ = some (.slice (some ⟨g1, 0, none⟩) (n + 1) cb') := hB2.cell 0 rfl
  have hor := or_word 0 j (by omega) hj
  rw [Nat.zero_or] at hor
  have hrn1 : r < n + 1 := by omega
  have hrn2 : (r : Int) < ((n + 1 : Nat) : Int) := by omega
  have hrn3 : (0 : Int) ≤ (r : Int) := by omega
  have hrn4 : (r : Int) < (n : Int) + 1 := by omega
  have HST := Lib.hid hst
  have HOR := Lib.hid hor
  have HF12 := Lib.hid ((Fr.weaken (G := p :: (obl (.slice a1 n c1) ++ obl (.slice a2 n c2))) (G' := p :: (obl (.slice a1 n c1) ++ obl (.slice a' (n + 1) cap'))) HF1.out (fun k hk => by
      rcases List.mem_cons.1 hk with e | e
      · exact e ▸ List.mem_cons_self
      · exact List.mem_cons_of_mem _ (List.mem_append.2 (.inr e))) (fun k hk => by
      rcases List.mem_cons.1 hk with e | e
      · exact .inl (e ▸ List.mem_cons_self)
      · rcases List.mem_append.1 e with e | e
        · exact .inr (List.mem_cons_of_mem _ (List.mem_append.2 (.inl e)))
        · exact .inl (List.mem_cons_of_mem _ e))).trans (Fr.weaken (G := p :: (obl (.slice a1 n c1) ++ obl (.slice a' (n + 1) cap'))) (G' := p :: (obl (.slice (some ⟨g1, 0, none⟩) (n + 1) cb') ++ obl (.slice a' (n + 1) cap'))) hF2 (fun k hk => by
      rcases List.mem_cons.1 hk with e | e
      · exact e ▸ List.mem_cons_self
      · exact List.mem_cons_of_mem _ (List.mem_append.2 (.inl e))) (fun k hk => by
      rcases List.mem_cons.1 hk with e | e
      · exact .inl (e ▸ List.mem_cons_self)
      · rcases List.mem_append.1 e with e | e
        · exact .inl (List.mem_cons_of_mem _ e)
        · exact .inr (List.mem_cons_of_mem _ (List.mem_append.2 (.inr e))))))
  clear hF2 hW2 hB2 hU2 hqs hql hq1 hq2 hqr hqq hst hor hri hrq
  go_wp2_with fail
  refine wp_region_still_tail 14 (by kernel_rfl) (by kernel_rfl) ?_
  simp only [List.take_succ_cons, List.take_zero, List.drop_succ_cons, List.drop_zero]
  repeat still_step
  still_call ((binsert_any 0 j (by omega) hj _).mono fun _ _ h => ⟨h.1, h.2.symm⟩)
  repeat still_step
  refine wpStill_nil ?_
  change wpList _ _ _ _ _ w2.drew
  go_wp2_with fail
  go_ret
  have hs := HST.out
  have e2j : ((2 ^ j : Nat) : Int) = (2 : Int) ^ j := by simp
  rw [e2j] at hs
  exact ⟨rfl, _, hs.1.drewN 1, (HF12.out.trans (Fr.weaken (G := p :: (obl (.slice (some ⟨g1, 0, none⟩) (n + 1) cb') ++ obl (.slice a' (n + 1) cap'))) hs.2 (fun k hk => by rw [List.mem_singleton.1 hk, obl_some]; simp) (fun k hk => .inr hk))).drew⟩
set_option maxRecDepth 100000 in
set_option maxHeartbeats 2000000 in
theorem setbit_old (p : Nat) (F : List Nat) (ps : Ps) (k : Nat) (w : World) (h : SpAt w p F ps) (hok : Ok ps) (hn : ps.length ≤ 1000) (hk : k < 18446744073709551616) (b : Nat) (hold : ps[pos ps (k / 64)]? = some (k / 64, b)) :
    Calls Tryz.prog 122 #[.pointer (some ⟨p, 0, none⟩), .int .u64 (k : Int)] w fun e w' => e = .returned .nilIface ∧ ∃ F', SpAt w' p F' (setB ps k) ∧ Fr F F' w w' := by
  obtain ⟨a1, c1, a2, c2, h1, h2, h3, rfl⟩ := h
  have hps := pos_sAt ps (k / 64)
  obtain ⟨r, hr0⟩ : ∃ r, r = pos ps (k / 64) := ⟨_, rfl⟩
  obtain ⟨i, hi⟩ : ∃ i, i = k / 64 := ⟨_, rfl⟩
  obtain ⟨j, hj0⟩ : ∃ j, j = k % 64 := ⟨_, rfl⟩
  obtain ⟨n, hN⟩ : ∃ n, n = ps.length := ⟨_, rfl⟩
  have hj : j < 64 := by rw [hj0]; exact Nat.mod_lt _ (by decide)
  have hi64 : i < 18446744073709551616 := by omega
  have hrn : r ≤ n := by rw [hr0, hN]; exact pos_le ps _
  have hir := idxrem_any k hk w
  obtain ⟨he1, he2⟩ := ins_old (w := b ||| 2 ^ (k % 64)) hok hold
  have he : setB ps k = ps.set r (i, b ||| 2 ^ j) := by
    unfold setB
    rw [he2, he1, hr0, hi, hj0]
  rw [he]
  rw [← hr0, ← hi] at hps hold
  rw [← hi, ← hj0] at hir
  have hrl : r < ps.length := (List.getElem?_eq_some_iff.1 hold).1
  have hrg : ps[r]'hrl = (i, b) := (List.getElem?_eq_some_iff.1 hold).2
  have hlen1 : (ps.map Prod.fst).length = n := by rw [List.length_map, hN]
  have hui := uinsert_old p 1 _ _ a2 n c2 _ i r w (hN ▸ h1) rfl (by decide) (hN ▸ h3) hlen1.symm (by omega) hok.1 hps.symm (by omega) (by rw [map_getD_fst ps r hrl, hrg])
  have hb64 : b < 18446744073709551616 := hok.2 _ (List.mem_of_getElem? hold)
  rw [← hN] at h1 h2 h3 hn ⊢
  have HIR := Lib.hid hir
  have HB0 := Lib.hid h1
  have HW0 := Lib.hid h2
  have HI0 := Lib.hid h3
  have HN := Lib.hid hN
  have HUI := Lib.hid hui
  have HRL := Lib.hid hrl
  have HRG : Hid (ps[r]'HRL.out = (i, b)) := Lib.hid hrg
  have hri : r < n := by omega
  clear h1 h2 h3 hN hr0 hi hj0 hps hir hui hlen1 he he1 he2 hok hold hrl hrg
  go_enter Tryz.func122, Tryz.ntmps122
  go_wp2_with fail
  refine HIR.out.mono ?_
  rintro e w0 ⟨rfl, rfl⟩
  go_wp2_with fail
  refine HUI.out.mono ?_
  rintro e w1 ⟨rfl, hb1⟩
  have hB1 := HB0.out.below hb1 HB0.out.lt
  have hW1 := HW0.out.below hb1 rfl
  have hI1 := HI0.out.below hb1 rfl
  have hgb : ∃ g1, a1 = some ⟨g1, 0, none⟩ := by
    rcases hW1.cases with ⟨e, e2⟩ | ⟨g, cap, e, _⟩
    · have := congrArg List.length e2; rw [List.length_map, ← HN.out] at this; simp at this; omega
    · injection e with e; exact ⟨g, e⟩
  obtain ⟨g1, rfl⟩ := hgb
  have hst := SpAt.word HN.out hB1 hW1 hI1 HRL.out (b ||| 2 ^ j)
  rw [show (ps[r]'HRL.out).1 = i from by rw [HRG.out]] at hst
  have hwc : w1.cell? ⟨g1, r, none⟩ = some (.int .u64 (b : Int)) := by
    rcases hW1.cases with ⟨e, e2⟩ | ⟨g, cap, e, _, _, _, hcell⟩
    · cases e
    · injection e with e
      injection e with e
      injection e with e
      subst e
      have := hcell r (by rw [List.length_map]; exact HRL.out)
      rw [map_getD_snd ps r HRL.out, HRG.out] at this
      exact this
  have hwf : w1.frozen? ⟨g1, r, none⟩ = false := World.ownsRow.frozenAt (hW1.to (n := n) (by rw [List.length_map]; exact HN.out)) r
  have c0 : w1.cell? ⟨p, 0, none⟩ = some (.slice (some ⟨g1, 0, none⟩) n c1) := hB1.cell 0 rfl
  have hor := or_word b j hb64 hj
  have hrn2 : (r : Int) < (n : Int) := by omega
  have hrn3 : (0 : Int) ≤ (r : Int) := by omega
  have HST := Lib.hid hst
  have HB64 := Lib.hid hb64
  have HOR := Lib.hid hor
  have HF := Lib.hid hb1
  clear hW1 hB1 hI1 hst hor hb1 hb64
  go_wp2_with fail
  refine wp_region_still_tail 14 (by kernel_rfl) (by kernel_rfl) ?_
  simp only [List.take_succ_cons, List.take_zero, List.drop_succ_cons, List.drop_zero]
  repeat still_step
  still_call ((binsert_any b j HB64.out hj _).mono fun _ _ h => ⟨h.1, h.2.symm⟩)
  repeat still_step
  refine wpStill_nil ?_
  change wpList _ _ _ _ _ w1.drew
  go_wp2_with fail
  go_ret
  exact ⟨rfl, _, HST.out.1.drewN 1, ((Fr.of_below _ HF.out).trans (Fr.weaken (G := p :: (obl (.slice (some ⟨g1, 0, none⟩) n c1) ++ obl (.slice a2 n c2))) HST.out.2 (fun k hk => by rw [List.mem_singleton.1 hk, obl_some]; simp) (fun k hk => .inr hk))).drew⟩

/-- SetBit of a sparse array -/
theorem setbit_any (p : Nat) (F : List Nat) (ps : Ps) (k : Nat) (w : World) (h : SpAt w p F ps) (hok : Ok ps) (hn : ps.length ≤ 1000) (hk : k < 18446744073709551616) :
    Calls Tryz.prog 122 #[.pointer (some ⟨p, 0, none⟩), .int .u64 (k : Int)] w fun e w' => e = .returned .nilIface ∧ ∃ F', SpAt w' p F' (setB ps k) ∧ Fr F F' w w' := by
  by_cases hc : ∀ q, ps[pos ps (k / 64)]? = some q → q.1 ≠ k / 64
  · exact setbit_new p F ps k w h hok hn hk hc
  · cases hq : ps[pos ps (k / 64)]? with
    | none => exact absurd (fun q e => by rw [hq] at e; cases e) hc
    | some q =>
      obtain ⟨i, b⟩ := q
      by_cases e : i = k / 64
      · subst e; exact setbit_old p F ps k w h hok hn hk b hq
      · exact absurd (fun q e2 => by rw [hq] at e2; injection e2 with e2; rw [← e2]; exact e) hc
end Go.Proofs.YtgifbdjifmoafaaGreat
