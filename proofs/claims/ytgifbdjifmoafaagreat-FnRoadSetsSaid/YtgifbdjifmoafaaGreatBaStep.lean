/- Walks of impl's step on bit arrays, operation by operation. -/
import Derived.Test.YtgifbdjifmoafaaGreatBaSt
import Derived.Defers
import Derived.Recover
namespace Go.Proofs.YtgifbdjifmoafaaGreat
set_option linter.unusedVariables false
open Go.RowKit Bam

theorem catch_idle (q : Addr) (w : World) :
    CallsD Tryz.prog 31 #[.pointer (some q)] .returning w fun e u' w' => e = .returned (.tuple #[]) ∧ u' = .returning ∧ w' = w := by
  refine callsD_of_wpS Tryz.func31 rfl fun c₀ cs hu => ?_
  apply wpS_seq
  apply wpS_region
  simp [wpOpsS, go_sem, recoverD, hu, Tryz.ntmps31, Exit.thenS]
  refine wpS_cond (t := false) (by simp [Act.eval, Array.replicate]) ?_
  simp only [Bool.false_eq_true, if_false]
  refine wpS_of_wp (wp_skip ?_)
  cases c₀
  simp_all [bodyPostS, results, Tryz.results31]

theorem newsp_any (w : World) : Calls Tryz.prog 43 #[] w fun e w' => e = .returned (.pointer (some ⟨w.heap.size, 0, none⟩)) ∧ w' = w.alloc (.cells #[.slice none 0 0, .slice none 0 0] 111) := by
  go_enter Tryz.func43, Tryz.ntmps43
  go_wp2_with fail
  go_ret
  exact ⟨rfl, rfl⟩
theorem newsparse_any (w : World) : Calls Tryz.prog 34 #[] w fun e w' => e = .returned (.iface 99 (.pointer (some ⟨w.heap.size, 0, none⟩))) ∧ w' = w.alloc (.cells #[.slice none 0 0, .slice none 0 0] 111) := by
  go_enter Tryz.func34, Tryz.ntmps34
  go_wp2_with fail
  refine (newsp_any _).mono ?_
  rintro e w' ⟨rfl, rfl⟩
  go_wp2_with fail
  go_ret
  exact ⟨rfl, rfl⟩

theorem SpAt.new (w : World) : SpAt (w.alloc (.cells #[.slice none 0 0, .slice none 0 0] 111)) w.heap.size [w.heap.size] [] :=
  ⟨none, 0, none, 0, Blk.new _ _ _, Ue.nil _ _, Ue.nil _ _, rfl⟩

theorem step_end {post : Ending → World → Prop} {tm : Array Value} {q : Nat} {w : World} {y : Bool} {n : Nat} {v : Value} (h4 : tm[4]? = some (.pointer (some ⟨q, 0, none⟩))) (hA : Blk w q 44 #[.bool y, .int .u64 (n : Int), v, .bool false]) (h : post (.returned (.agg #[.bool y, .int .u64 (n : Int), v, .bool false])) w) :
    bodyPostD Tryz.prog Tryz.f22 post Exit.ret { tmps := tm, defers := [{ target := Target.fn (Fn.func 31) #[.pointer (some ⟨q, 0, none⟩)], args := #[] }] } w := by
  refine leaves_cons (f := 31) (args := #[.pointer (some ⟨q, 0, none⟩)]) (by simp) (by simp [go_sem]) ?_
  refine (catch_idle ⟨q, 0, none⟩ _).mono ?_
  rintro e u' w'' ⟨rfl, rfl, rfl⟩
  have k0 := hA.cell 0 rfl
  have k1 := hA.cell 1 rfl
  have k2 := hA.cell 2 rfl
  have k3 := hA.cell 3 rfl
  simp [Leaves, settle, results, Tryz.results22, go_sem, h4, k0, k1, k2, k3]
  exact h

/-- the answer's block behind the last region: out is loaded and stored -/
theorem ans_again {w : World} {q : Nat} {y : Bool} {n : Nat} {v : Value} (hA : Blk w q 44 #[.bool y, .int .u64 (n : Int), v, .bool false]) :
    Blk ((((w.setCell ⟨q, 0, none⟩ (.bool y)).setCell ⟨q, 1, none⟩ (.int .u64 (n : Int))).setCell ⟨q, 2, none⟩ v).setCell ⟨q, 3, none⟩ (.bool false)) q 44 #[.bool y, .int .u64 (n : Int), v, .bool false] :=
  (((hA.set 0 _).set 1 _).set 2 _).set 3 _
theorem fr_again (w : World) (q : Nat) (v0 v1 v2 v3 : Value) : Fr [q] [q] w ((((w.setCell ⟨q, 0, none⟩ v0).setCell ⟨q, 1, none⟩ v1).setCell ⟨q, 2, none⟩ v2).setCell ⟨q, 3, none⟩ v3) :=
  (((fr_store_other w q 0 v0).trans (fr_store_other _ q 1 v1)).trans (fr_store_other _ q 2 v2)).trans (fr_store_other _ q 3 v3)

/-- how a step begins: the step's box b, the answer's block q -/
structure Began (w w0 : World) (b q : Nat) (cs : Array Value) : Prop where
  hb : b = w.heap.size
  hq : q = w.heap.size + 1
  size : w0.heap.size = w.heap.size + 2
  below : Below w.heap.size w w0
  box : Blk w0 b 33 cs
  ans : Blk w0 q 44 #[.bool false, .int .u64 ((0 : Nat) : Int), .slice none 0 0, .bool false]
theorem began (w : World) (cs : Array Value) : Began w ((w.alloc (.cells cs 33)).alloc (.cells #[.bool false, .int .u64 0, .slice none 0 0, .bool false] 44)) w.heap.size (w.heap.size + 1) cs := by
  refine ⟨rfl, rfl, by simp, ((Below.refl _ _).alloc (Nat.le_refl _) _).alloc (by simp) _, (Blk.new _ _ _).alloc _, ?_⟩
  have := Blk.new (w.alloc (.cells cs 33)) 44 #[.bool false, .int .u64 0, .slice none 0 0, .bool false]
  simpa using this
/-- a call that turned the arrays alone leaves the box and the answer -/
theorem Began.keep {w w0 w1 : World} {b q : Nat} {cs : Array Value} (h : Began w w0 b q cs) {G G' : List Nat} (hf : Fr G G' w0 w1) (hG : ∀ k ∈ G, k < w.heap.size) :
    Blk w1 b 33 cs ∧ Blk w1 q 44 #[.bool false, .int .u64 ((0 : Nat) : Int), .slice none 0 0, .bool false] :=
  ⟨hf.blk h.box (fun e => by have := hG _ e; have := h.hb; omega), hf.blk h.ans (fun e => by have := hG _ e; have := h.hq; omega)⟩
/-- the end of a step: the answer was written, the arrays stand -/
theorem Sta.done {w1 w2 : World} {a : Nat} {s : Option Addr} {c : Nat} {es : List Ent} {q : Nat} (h : Sta w1 a s c es) (hf : Fr [q] [q] w1 w2) (hq : q ∉ foot a s c es) : Sta w2 a s c es :=
  h.frame hf (fun k hk hk2 => hq (by rw [List.mem_singleton] at hk2; exact hk2 ▸ hk))
/-- frames of a whole step -/
theorem step_fr {w w0 w1 w2 : World} {b q : Nat} {cs : Array Value} {G G' : List Nat} (h : Began w w0 b q cs) (hf : Fr G G' w0 w1) (hG : ∀ k ∈ G, k < w.heap.size) (h2 : Fr [q] [q] w1 w2) : Fr G G' w w2 := by
  refine ⟨h2.os.trans (hf.os.trans h.below.os), h2.tape.trans (hf.tape.trans h.below.tape), h2.output.trans (hf.output.trans h.below.output), ?_, fun k hk hn => ?_, fun k hk => ?_⟩
  · have := h2.size; have := hf.size; have := h.below.size; omega
  · have e1 := h.below.block k hk
    have e2 := hf.block k (by have := h.size; omega) hn
    have e3 := h2.block k (by have := h.size; have := hf.size; omega) (fun e => by rw [List.mem_singleton] at e; have := h.hq; omega)
    exact e3.trans (e2.trans e1)
  · rcases hf.next k hk with e | e
    · exact .inl e
    · right; have := h.size; omega

def stepV (op on by_ : Int) (k : Nat) (most : Int) (all : Bool) : Value := .agg #[.int .i64 op, .int .i64 on, .int .i64 by_, .int .u64 (k : Int), .int .i64 most, .bool all]
def ansV (yes : Bool) (n : Nat) (v : Value) : Value := .agg #[.bool yes, .int .u64 (n : Int), v, .bool false]

set_option maxRecDepth 100000 in
set_option maxHeartbeats 1000000 in
theorem step2_any (a : Nat) (s : Option Addr) (c : Nat) (es : List Ent) (on by_ : Int) (k : Nat) (most : Int) (all : Bool) (w : World) (h : Sta w a s c es) (hn : es.length ≤ 1000) :
    Calls Tryz.prog 22 #[.pointer (some ⟨a, 0, none⟩), stepV 2 on by_ k most all] w fun e w' => e = .returned (ansV false 0 (.slice none 0 0)) ∧
      ∃ s' c' p F, Sta w' a s' c' (es ++ [Ent.mk p F (.sp [])]) ∧ Fr (foot a s c es) (foot a s' c' (es ++ [Ent.mk p F (.sp [])])) w w' := by
  unfold stepV ansV
  have hmf : ∀ (fn : Fn) (first cap : Array Value) (w : World), (Instr.makeFunc fn first cap).run Tryz.prog w = .ok (.func fn first cap) w := fun _ _ _ _ => rfl
  have H := Lib.hid h
  clear h
  go_enter_defers Tryz.func22, Tryz.ntmps22
  go_wp2_with fail
  have hbg := began w #[.int .i64 2, .int .i64 on, .int .i64 by_, .int .u64 (k : Int), .int .i64 most, .bool all]
  obtain ⟨w0, hw0⟩ : ∃ w0, (w.alloc (Obj.cells #[.int .i64 2, .int .i64 on, .int .i64 by_, .int .u64 (k : Int), .int .i64 most, .bool all] 33)).alloc (.cells #[.bool false, .int .u64 0, .slice none 0 0, .bool false] 44) = w0 := ⟨_, rfl⟩
  rw [hw0] at hbg ⊢
  obtain ⟨q, hq⟩ : ∃ q, w.heap.size + 1 = q := ⟨_, rfl⟩
  obtain ⟨b, hb⟩ : ∃ b, w.heap.size = b := ⟨_, rfl⟩
  rw [hq] at hbg ⊢
  rw [hb] at hbg ⊢
  have HBG := Lib.hid hbg
  have HST0 := Lib.hid (H.out.below hbg.below)
  clear hw0 hq hb hbg
  refine (newsparse_any _).mono ?_
  rintro e w1 ⟨rfl, hw1⟩
  have hsp : SpAt w1 w0.heap.size [w0.heap.size] [] := hw1 ▸ SpAt.new w0
  have hb1 : Below w0.heap.size w0 w1 := hw1 ▸ (Below.refl _ _).alloc (Nat.le_refl _) _
  have hm := made_any a s c es w0.heap.size [w0.heap.size] (.sp []) w1 (HST0.out.below hb1) hsp (fun k hk hk2 => by rw [List.mem_singleton] at hk; subst hk; exact Nat.lt_irrefl _ (HST0.out.lt _ hk2)) hn
  obtain ⟨p, hp⟩ : ∃ p, w0.heap.size = p := ⟨_, rfl⟩
  have HB1 := Lib.hid hb1
  rw [hp] at hm ⊢
  have HM := Lib.hid hm
  have HP := Lib.hid hp
  clear hw1 hsp hb1 hm hp
  go_wp2_with fail
  refine HM.out.mono ?_
  rintro e w2 ⟨rfl, s', c', hs2, hf2⟩
  have hf02 : Fr (foot a s c es) (foot a s' c' (es ++ [Ent.mk p [p] (.sp [])])) w0 w2 := by
    refine ⟨hf2.os.trans HB1.out.os, hf2.tape.trans HB1.out.tape, hf2.output.trans HB1.out.output, Nat.le_trans HB1.out.size hf2.size, fun k hk hn => ?_, fun k hk => ?_⟩
    · refine (hf2.block k (Nat.lt_of_lt_of_le hk HB1.out.size) (fun e => ?_)).trans (HB1.out.block k hk)
      rcases List.mem_append.1 e with e | e
      · exact hn e
      · rw [List.mem_singleton] at e; have := HP.out; omega
    · rcases hf2.next k hk with e | e
      · rcases List.mem_append.1 e with e | e
        · exact .inl e
        · rw [List.mem_singleton] at e; have := HP.out; exact .inr (by omega)
      · exact .inr (Nat.le_trans HB1.out.size e)
  have hlt := H.out.lt
  obtain ⟨hbx, hA2⟩ := HBG.out.keep hf02 hlt
  have hqn : q ∉ foot a s' c' (es ++ [Ent.mk p [p] (.sp [])]) := fun e => by
    have h1 := HBG.out.hq
    have h2 := HBG.out.size
    rcases hf02.next q e with e | e
    · have := hlt q e; omega
    · omega
  have k0 : w2.cell? ⟨q, 0, none⟩ = some (.bool false) := hA2.cell 0 rfl
  have k1 : w2.cell? ⟨q, 1, none⟩ = some (.int .u64 ((0 : Nat) : Int)) := hA2.cell 1 rfl
  have k2 : w2.cell? ⟨q, 2, none⟩ = some (.slice none 0 0) := hA2.cell 2 rfl
  have k3 : w2.cell? ⟨q, 3, none⟩ = some (.bool false) := hA2.cell 3 rfl
  have f0 := hA2.free 0
  have f1 := hA2.free 1
  have f2 := hA2.free 2
  have f3 := hA2.free 3
  have HA2 := Lib.hid hA2
  have HS2 := Lib.hid hs2
  have HF2 := Lib.hid hf02
  have HQN := Lib.hid hqn
  clear hs2 hf2 hA2 hf02 hlt hbx hqn
  go_wp2_with fail
  refine step_end (q := q) (by rfl) (ans_again HA2.out) ⟨rfl, s', c', p, [p], HS2.out.done (fr_again w2 q _ _ _ _) HQN.out, step_fr HBG.out HF2.out H.out.lt (fr_again w2 q _ _ _ _)⟩
end Go.Proofs.YtgifbdjifmoafaaGreat
