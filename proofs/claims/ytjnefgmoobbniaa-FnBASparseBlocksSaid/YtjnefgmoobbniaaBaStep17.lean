/- Walk of impl's step 17 (the blocks) at a sparse array. -/
import Derived.Test.YtjnefgmoobbniaaBaDoes
import Derived.Test.YtjnefgmoobbniaaBaIter
namespace Go.Proofs.Ytjnefgmoobbniaa
set_option linter.unusedVariables false
open Go.RowKit Bam

def flatP (ps : Ps) : List Nat := ps.flatMap fun q => [q.1, q.2]
theorem flatP_len (ps : Ps) : (flatP ps).length = 2 * ps.length := by
  induction ps with
  | nil => rfl
  | cons q ps ih => show ([q.1, q.2] ++ flatP ps).length = _; rw [List.length_append, ih]; simp; omega
theorem flatP_succ (ps : Ps) (i : Nat) (h : i < ps.length) : flatP (ps.take (i + 1)) = flatP (ps.take i) ++ [(ps.getD i (0, 0)).1, (ps.getD i (0, 0)).2] := by
  unfold flatP
  rw [List.take_succ_eq_append_getElem h, List.flatMap_append, show ps.getD i (0, 0) = ps[i] by rw [List.getD_eq_getElem?_getD, List.getElem?_eq_getElem h]; rfl]
  simp

theorem meth_sp_Blocks (x : Value) (w : World) : (method 254 86 x "Blocks").run Try.prog w = .ok (97, x) w := by kernel_rfl
theorem meth_it_Next (x : Value) (w : World) : (method 254 140 x "Next").run Try.prog w = .ok (129, x) w := by kernel_rfl
theorem meth_it_Value (x : Value) (w : World) : (method 254 140 x "Value").run Try.prog w = .ok (130, x) w := by kernel_rfl

def BlkRel (ps : Ps) (n p q q2 B : Nat) (w0 : World) (k : Nat) (s9 : Value) (wr : World) : Prop :=
  ∃ (i : Nat) (I : Int) (v : Option Addr) (m cc : Nat), i + k = n ∧ I + 1 = (i : Int) ∧ ItAt wr q2 p I ∧ Blk wr q 45 #[.bool false, .int .u64 0, .slice v m cc, .bool false] ∧ wr.ownsRow B 30 1 (.slice v m cc) m (u64s (flatP (ps.take i))) ∧ Fr [q] [q] w0 wr

theorem Fr.late {F G : List Nat} {u v w : World} (h : Fr F F u v) (k : Fr G G v w) (hG : ∀ x ∈ G, x ∈ F ∨ u.heap.size ≤ x) : Fr F F u w :=
  ⟨k.os.trans h.os, k.tape.trans h.tape, k.output.trans h.output, Nat.le_trans h.size k.size, fun i hi hn => (k.block i (Nat.lt_of_lt_of_le hi h.size) (fun e => (hG i e).elim hn (fun e2 => absurd hi (by omega)))).trans (h.block i hi hn), fun i hi => .inl hi⟩

set_option maxRecDepth 100000 in
set_option maxHeartbeats 4000000 in
theorem step17_sp (a : Nat) (s : Option Addr) (c : Nat) (es : List Ent) (i p : Nat) (F : List Nat) (ps : Ps) (by_ : Int) (k : Nat) (most : Int) (all : Bool) (w : World) (h : Sta w a s c es) (hn : es.length ≤ 1000) (hi : es[i]? = some ⟨p, F, .sp ps⟩) (hok : Ok ps) (hl : ps.length ≤ 1000) :
    Calls Try.prog 26 #[.pointer (some ⟨a, 0, none⟩), stepV 17 (i : Int) by_ k most all] w fun e w' => ∃ v m cc, e = .returned (ansV false 0 (.slice v m cc)) ∧ w'.ownsRow w.heap.size 30 1 (.slice v m cc) m (u64s (flatP ps)) ∧ (∀ k ∈ obl (.slice v m cc), k ∉ foot a s c es) ∧ Sta w' a s c es ∧ Fr (foot a s c es) (foot a s c es) w w' := by
  unfold stepV ansV
  have hmf : ∀ (fn : Fn) (first cap : Array Value) (w : World), (Instr.makeFunc fn first cap).run Try.prog w = .ok (.func fn first cap) w := fun _ _ _ _ => rfl
  have hme := meth_sp_Blocks (.pointer (some ⟨p, 0, none⟩))
  have H := Lib.hid h
  have HI := Lib.hid hi
  clear h hi
  go_enter_defers Try.func26, Try.ntmps26
  go_wp2_with fail
  have hbg := began w #[.int .i64 17, .int .i64 (i : Int), .int .i64 by_, .int .u64 (k : Int), .int .i64 most, .bool all]
  obtain ⟨w0, hw0⟩ : ∃ w0, (w.alloc (Obj.cells #[.int .i64 17, .int .i64 (i : Int), .int .i64 by_, .int .u64 (k : Int), .int .i64 most, .bool all] 32)).alloc (.cells #[.bool false, .int .u64 0, .slice none 0 0, .bool false] 45) = w0 := ⟨_, rfl⟩
  rw [hw0] at hbg ⊢
  obtain ⟨q, hq⟩ : ∃ q, w.heap.size + 1 = q := ⟨_, rfl⟩
  obtain ⟨b, hb⟩ : ∃ b, w.heap.size = b := ⟨_, rfl⟩
  rw [hq] at hbg ⊢
  rw [hb] at hbg ⊢
  have HBG := Lib.hid hbg
  have hst0 := H.out.below hbg.below
  have HST0 := Lib.hid hst0
  have x0 : w0.cell? ⟨b, 0, none⟩ = some (.int .i64 17) := hbg.box.cell 0 rfl
  have x3 : w0.cell? ⟨b, 3, none⟩ = some (.int .u64 (k : Int)) := hbg.box.cell 3 rfl
  have hat := arat_any a s c es i _ w0 hst0 HI.out hn
  have HAT := Lib.hid hat
  have hsp : SpAt w0 p F ps := hst0.at_ _ (List.mem_of_getElem? HI.out)
  have HSP := Lib.hid hsp
  clear hw0 hq hb hbg hst0 hat hsp
  refine HAT.out.mono ?_
  rintro e w' ⟨rfl, rfl⟩
  go_wp2_with fail
  refine (blocks_sp p _).mono ?_
  rintro e w1 ⟨rfl, hit, hb1⟩
  have hq1 : Blk w1 q 45 #[.bool false, .int .u64 0, .slice none 0 0, .bool false] := by
    have hlt := H.out.lt
    exact (HBG.out.keep (Fr.of_below _ hb1) hlt).2
  have hf1 : Fr [q] [q] w0 w1 := Fr.of_below _ hb1
  have hqw0 : q < w0.heap.size := by have h1 := HBG.out.hq; have h2 := HBG.out.size; omega
  obtain ⟨q2, hq2⟩ : ∃ q2, w0.heap.size = q2 := ⟨_, rfl⟩
  rw [hq2] at hit
  have HIT := Lib.hid hit
  have HQ1 := Lib.hid hq1
  have HF1 := Lib.hid hf1
  have HQ2 := Lib.hid hq2
  simp only [hq2]
  clear hit hq1 hf1 hb1 hq2 hme
  have hmn := meth_it_Next (.pointer (some ⟨q2, 0, none⟩))
  have hmv := meth_it_Value (.pointer (some ⟨q2, 0, none⟩))
  go_wp2_with fail
  obtain ⟨n, hN⟩ : ∃ n, n = ps.length := ⟨_, rfl⟩
  have hn1 : n ≤ 1000 := by omega
  have HN := Lib.hid hN
  have HL := Lib.hid hl
  clear hN hl
  go_loopg [9] n (fun k s9 wr => BlkRel ps n p q q2 w0.heap.size w0 k s9 wr)
  case atStart => exact ⟨0, -1, none, 0, 0, by omega, rfl, HIT.out, HQ1.out, World.ownsRow_nil _ _ _ _, HF1.out⟩
  case round =>
    obtain ⟨j, I, v, m, cc, hjk, hI, hit, hbq, hown, hfr⟩ := hrel
    have hFw : ∀ x ∈ F, x < w.heap.size := fun x hx => H.out.lt x (mem_foot.2 (.inr (.inr ⟨_, List.mem_of_getElem? HI.out, hx⟩)))
    have hspr : SpAt wr p F ps := HSP.out.frame hfr (fun x hx hxq => by
      have h1 := hFw x hx
      have h2 := HBG.out.hq
      rw [List.mem_singleton] at hxq
      omega)
    have hm : m ≤ 2000 := by
      have h1 := hown.1
      rw [u64s_len, flatP_len, List.length_take, Nat.mul_one] at h1
      have := HL.out
      omega
    have hszw := hfr.size
    have HFW := Lib.hid hFw
    clear hFw
    have hnx := next_sp q2 p F ps I j wr hspr hit hI (by omega) (by have := HL.out; omega)
    have HSR := Lib.hid hspr
    have HIJ := Lib.hid hit
    have HQJ := Lib.hid hbq
    have HOJ := Lib.hid hown
    have HFJ := Lib.hid hfr
    clear hI hit hbq hown hfr hspr
    by_cases hj : j < n
    · rw [decide_eq_true (by rw [← HN.out]; exact hj)] at hnx
      have HNX := Lib.hid hnx
      clear hnx
      cases gk with
      | zero => omega
      | succ k =>
        go_wp2_with fail
        refine HNX.out.mono ?_
        rintro e w2 ⟨rfl, nq, rfl⟩
        have hq2q : q ≠ q2 := by have := HQ2.out; omega
        have hs2 : Fr [q2] [q2] wr ((wr.setCell ⟨q2, 0, none⟩ (.int .i64 (j : Int))).drewN nq) := (Fr.store wr (F := [q2]) (a := ⟨q2, 0, none⟩) (List.mem_singleton.2 rfl) _).drewN nq
        have hit2 : ItAt ((wr.setCell ⟨q2, 0, none⟩ (.int .i64 (j : Int))).drewN nq) q2 p (j : Int) := Blk.set HIJ.out 0 (.int .i64 (j : Int))
        have hbq2 := hs2.blk HQJ.out (by rw [List.mem_singleton]; exact hq2q)
        have hown2 := hs2.own HOJ.out (fun x h1 h2 => row_blk HOJ.out HIJ.out (by decide) (by rw [mem_obl] at h1; rw [h1, List.mem_singleton.1 h2]))
        have hsp2 := HSR.out.frame hs2 (fun x hx hxq => by
          have h1 := HFW.out x hx
          have h2 := HBG.out.size
          have h3 := HQ2.out
          rw [List.mem_singleton] at hxq
          omega)
        have hfr2 := HFJ.out.late hs2 (fun x hx => .inr (by rw [List.mem_singleton] at hx; have := HQ2.out; omega))
        obtain ⟨w2, hw2⟩ : ∃ w2, (wr.setCell ⟨q2, 0, none⟩ (.int .i64 (j : Int))).drewN nq = w2 := ⟨_, rfl⟩
        rw [hw2] at hit2 hbq2 hown2 hsp2 hfr2 ⊢
        have hval := value_sp q2 p F ps j w2 hsp2 hit2 (by rw [← HN.out]; exact hj) (by have := HL.out; omega)
        have hfl := flatP_succ ps j (by rw [← HN.out]; exact hj)
        obtain ⟨X, hX⟩ : ∃ X, (ps.getD j (0, 0)).1 = X := ⟨_, rfl⟩
        obtain ⟨Y, hY⟩ : ∃ Y, (ps.getD j (0, 0)).2 = Y := ⟨_, rfl⟩
        rw [hX, hY] at hval hfl
        have HV := Lib.hid hval
        have HFL := Lib.hid hfl
        have HIT2 := Lib.hid hit2
        have HBQ2 := Lib.hid hbq2
        have HOW2 := Lib.hid hown2
        have HFR2 := Lib.hid hfr2
        clear hs2 hit2 hbq2 hown2 hsp2 hfr2 hw2 hval hfl hX hY
        go_wp2_with fail
        refine HV.out.mono ?_
        rintro e w3 ⟨rfl, nq2, rfl⟩
        have hbq3 : Blk (w2.drewN nq2) q 45 #[.bool false, .int .u64 0, .slice v m cc, .bool false] := HBQ2.out
        have hit3 : ItAt (w2.drewN nq2) q2 p (j : Int) := HIT2.out
        have hown3 : (w2.drewN nq2).ownsRow w0.heap.size 30 1 (.slice v m cc) m (u64s (flatP (ps.take j))) := HOW2.out
        have hfr3 : Fr [q] [q] w0 (w2.drewN nq2) := HFR2.out.drewN nq2
        obtain ⟨w3, hw3⟩ : ∃ w3, w2.drewN nq2 = w3 := ⟨_, rfl⟩
        rw [hw3] at hbq3 hit3 hown3 hfr3 ⊢
        have y2 := hbq3.cell 2 rfl
        have hsl : Sl (w3.alloc (.cells #[.int .u64 (X : Int), .int .u64 (Y : Int)] 30)) (.slice (some ⟨w3.heap.size, 0, none⟩) 2 2) (u64s [X, Y]) := by
          refine ⟨_, 2, 2, rfl, rfl, Nat.le_refl _, by decide, fun _ => ⟨w3.heap.size, 0, rfl, fun t u hu => ?_⟩⟩
          rw [Nat.zero_add]
          refine (Blk.new w3 30 #[.int .u64 (X : Int), .int .u64 (Y : Int)]).cell t ?_
          rw [← Array.getElem?_toList]
          exact hu
        have hsz3 := hfr3.size
        have HB3 := Lib.hid hbq3
        have HI3 := Lib.hid hit3
        have HO3 := Lib.hid hown3
        have HF3 := Lib.hid hfr3
        have HSL := Lib.hid hsl
        clear hbq3 hit3 hown3 hfr3 hw3 hsl
        go_wp2_with (at_builtin; refine wpList_appendSl rfl _ _ 23 23 rfl w0.heap.size 30 30 (.int .u64 0) 8 Try.underlying23 Try.underlying23 info_u64 rfl (.slice v m cc) m (u64s (flatP (ps.take j))) rfl (HO3.out.alloc _) (.slice (some ⟨w3.heap.size, 0, none⟩) 2 2) (u64s [X, Y]) rfl HSL.out (u64s_one _) (by rw [u64s_len]; unfold maxLen; simp; omega) (by rw [u64s_len]; simp; omega) (by rw [World.size_alloc]; omega) ?_; intro p1 m1 cap1 w4 hown4 hg4 hb4; have hbq4 := (HB3.out.alloc _).grown hg4 (fun e => row_blk HO3.out HB3.out (by decide) e); have y4 := hbq4.cell 2 rfl; have f4 := hbq4.free 2; have HB4 := Lib.hid hbq4; have HO4 := Lib.hid hown4; have HG4 := Lib.hid hg4; clear hown4 hg4 hb4 hbq4)
        go_roundg k
        case measure => omega
        case rel =>
          have hfs := Fr.store w4 (F := [q]) (a := ⟨q, 2, none⟩) (List.mem_singleton.2 rfl) (.slice p1 m1 cap1)
          have hi4 : Blk w4 q2 148 #[.int .i64 (j : Int), .pointer (some ⟨p, 0, none⟩)] := (Blk.alloc HI3.out _).grown HG4.out (fun e => row_blk HO3.out HI3.out (by decide) e)
          have ho4 := HO4.out
          have hm1 : m1 = m + 2 := by
            rcases ho4.2 with ⟨_, e2⟩ | ⟨g, cap, cur, e, _⟩
            · simp [u64s_len] at e2
            · injection e
          have hfg : Fr (obl (.slice v m cc)) (obl (.slice v m cc)) _ w4 := Fr.of_grown (v' := .slice v m cc) HG4.out (fun k hk => .inl hk)
          have hf4 := (HF3.out.alloc (.cells #[.int .u64 (X : Int), .int .u64 (Y : Int)] 30)).late hfg (fun x hx => .inr (own_lt HO3.out x hx).2)
          refine ⟨j + 1, (j : Int), p1, m1, cap1, by omega, by omega, hfs.blk hi4 (by rw [List.mem_singleton]; exact fun e => hq2q e.symm), HB4.out.set 2 (.slice p1 m1 cap1), ?_, hf4.trans hfs⟩
          rw [HFL.out, u64s_append]
          have h5 := hfs.own ho4 (fun x h1 h2 => row_blk ho4 HB4.out (by decide) (by rw [mem_obl] at h1; rw [h1, List.mem_singleton.1 h2]))
          rw [u64s_len] at h5
          rw [hm1] at h5 ⊢
          exact h5
    · rw [decide_eq_false (by rw [← HN.out]; exact hj)] at hnx
      have HNX := Lib.hid hnx
      clear hnx
      obtain rfl : j = n := by omega
      go_wp2_with fail
      refine HNX.out.mono ?_
      rintro e w2 ⟨rfl, nq, rfl⟩
      have hq2q : q ≠ q2 := by have := HQ2.out; omega
      have hs2 : Fr [q2] [q2] wr ((wr.setCell ⟨q2, 0, none⟩ (.int .i64 (j : Int))).drewN nq) := (Fr.store wr (F := [q2]) (a := ⟨q2, 0, none⟩) (List.mem_singleton.2 rfl) _).drewN nq
      have hbq2 := hs2.blk HQJ.out (by rw [List.mem_singleton]; exact hq2q)
      have hown2 := hs2.own HOJ.out (fun x h1 h2 => row_blk HOJ.out HIJ.out (by decide) (by rw [mem_obl] at h1; rw [h1, List.mem_singleton.1 h2]))
      have hfr2 := HFJ.out.late hs2 (fun x hx => .inr (by rw [List.mem_singleton] at hx; have := HQ2.out; omega))
      obtain ⟨w2, hw2⟩ : ∃ w2, (wr.setCell ⟨q2, 0, none⟩ (.int .i64 (j : Int))).drewN nq = w2 := ⟨_, rfl⟩
      rw [hw2] at hbq2 hown2 hfr2 ⊢
      rw [List.take_of_length_le (by rw [← HN.out]; exact Nat.le_refl _)] at hown2
      have k0 := hbq2.cell 0 rfl
      have k1 := hbq2.cell 1 rfl
      have k2 := hbq2.cell 2 rfl
      have k3 := hbq2.cell 3 rfl
      have f0 := hbq2.free 0
      have f1 := hbq2.free 1
      have f2 := hbq2.free 2
      have f3 := hbq2.free 3
      have HBQ2 := Lib.hid hbq2
      have HOW2 := Lib.hid hown2
      have HFR2 := Lib.hid hfr2
      clear hs2 hbq2 hown2 hfr2 hw2
      go_wp2_with fail
      have hE : Blk w2 q 45 #[.bool false, .int .u64 ((0 : Nat) : Int), .slice v m cc, .bool false] := HBQ2.out
      have hqn : q ∉ foot a s c es := fun e => by have h1 := HBG.out.hq; have h2 := H.out.lt q e; omega
      have hfa := fr_again w2 q (.bool false) (.int .u64 ((0 : Nat) : Int)) (.slice v m cc) (.bool false)
      refine step_end (q := q) (by rfl) (ans_again hE) ⟨v, m, cc, rfl, own_base (hfa.own HOW2.out (fun x h1 h2 => row_blk HOW2.out HBQ2.out (by decide) (by rw [mem_obl] at h1; rw [h1, List.mem_singleton.1 h2]))) (by have := HBG.out.size; omega), (fun x hx hx2 => by have h1 := H.out.lt x hx2; have h2 := (own_lt HOW2.out x hx).2; have h3 := HBG.out.size; omega), HST0.out.done (HFR2.out.trans hfa) hqn, step_fr HBG.out (Fr.refl _ w0) H.out.lt (HFR2.out.trans hfa)⟩
end Go.Proofs.Ytjnefgmoobbniaa
