/- Walks of impl's two and step at operations on two arrays (printed by gen_ba_two.py). -/
import Derived.Test.YtgifbdjifmoafaaGreatBaDoes
namespace Go.Proofs.YtgifbdjifmoafaaGreat
set_option linter.unusedVariables false
open Go.RowKit Bam

/-- function f makes Z of X and Y -/
def Makes (f : FuncId) (X Y Z : Arr) : Prop := ∀ (w : World) (p : Nat) (F : List Nat) (q : Nat) (G : List Nat), ArrAt w p F X → ArrAt w q G Y →
  Calls Tryz.prog f #[.pointer (some ⟨p, 0, none⟩), .iface (tyOf Y) (.pointer (some ⟨q, 0, none⟩))] w fun e w' => ∃ (r : Nat) (H : List Nat), e = .returned (.iface (tyOf Z) (.pointer (some ⟨r, 0, none⟩))) ∧ ArrAt w' r H Z ∧ (∀ k ∈ H, w.heap.size ≤ k) ∧ Below w.heap.size w w'
/-- function f says b of X and Y -/
def Asks (f : FuncId) (X Y : Arr) (b : Bool) : Prop := ∀ (w : World) (p : Nat) (F : List Nat) (q : Nat) (G : List Nat), ArrAt w p F X → ArrAt w q G Y →
  Calls Tryz.prog f #[.pointer (some ⟨p, 0, none⟩), .iface (tyOf Y) (.pointer (some ⟨q, 0, none⟩))] w fun e w' => e = .returned (.bool b) ∧ Below w.heap.size w w'

set_option maxRecDepth 100000 in
set_option maxHeartbeats 1000000 in
theorem two11_any (f : FuncId) (X Y Z : Arr) (hmk : Makes f X Y Z) (T : TypeId) (hT : tyOf X = T) (hm : ∀ (v : Value) (w : World), (method 267 T v "Or").run Tryz.prog w = .ok (f, v) w) (hcf : ∀ (args : Array Value) (w : World), (callFunc f args).run Tryz.prog w = .ok (.enter f args) w) (a : Nat) (s : Option Addr) (c : Nat) (es : List Ent) (on : Int) (j p q1 : Nat) (F G : List Nat) (k : Nat) (most : Int) (all : Bool) (w : World) (q : Nat) (h : Sta w a s c es) (hn : es.length ≤ 1000) (hp : ArrAt w p F X) (hj : es[j]? = some ⟨q1, G, Y⟩) :
    Calls Tryz.prog 36 #[.pointer (some ⟨a, 0, none⟩), stepV 11 on (j : Int) k most all, .iface T (.pointer (some ⟨p, 0, none⟩)), .pointer (some ⟨q, 0, none⟩)] w fun e w' => e = .returned (.tuple #[]) ∧
      ∃ s' c' r H, Sta w' a s' c' (es ++ [Ent.mk r H Z]) ∧ Fr (foot a s c es) (foot a s' c' (es ++ [Ent.mk r H Z])) w w' := by
  unfold stepV
  have H := Lib.hid h
  have HMK := Lib.hid hmk
  have HP := Lib.hid hp
  have HJ := Lib.hid hj
  have HT := Lib.hid hT
  have hmp := hm (.pointer (some ⟨p, 0, none⟩))
  clear h hmk hp hj hm hT
  go_enter Tryz.func36, Tryz.ntmps36
  go_wp2_with fail
  have hb0 : Below w.heap.size w (w.alloc (.cells #[.int .i64 11, .int .i64 on, .int .i64 (j : Int), .int .u64 (k : Int), .int .i64 most, .bool all] 33)) := (Below.refl _ _).alloc (Nat.le_refl _) _
  have x0 : (w.alloc (.cells #[.int .i64 11, .int .i64 on, .int .i64 (j : Int), .int .u64 (k : Int), .int .i64 most, .bool all] 33)).cell? ⟨w.heap.size, 0, none⟩ = some (.int .i64 11) := (Blk.new w _ _).cell 0 rfl
  obtain ⟨w0, hw0⟩ : ∃ w0, w.alloc (.cells #[.int .i64 11, .int .i64 on, .int .i64 (j : Int), .int .u64 (k : Int), .int .i64 most, .bool all] 33) = w0 := ⟨_, rfl⟩
  rw [hw0] at hb0 x0 ⊢
  have hst := H.out.below hb0
  have hat := arat_any a s c es j _ w0 hst HJ.out hn
  have hy : ArrAt w0 q1 G Y := hst.at_ _ (List.mem_of_getElem? HJ.out)
  have hcc := HMK.out w0 p F q1 G (HP.out.below hb0) hy
  have HAT := Lib.hid hat
  have HCC := Lib.hid hcc
  have HS0 := Lib.hid hst
  have HB0 := Lib.hid hb0
  clear hw0 hb0 hst hat hcc hy
  refine HAT.out.mono ?_
  rintro e w' ⟨rfl, rfl⟩
  obtain ⟨TY, hTY⟩ : ∃ TY, tyOf Y = TY := ⟨_, rfl⟩
  have HTY := Lib.hid hTY
  simp only [hTY]
  clear hTY
  go_wp2_with fail
  refine (HTY.out ▸ HCC.out).mono ?_
  rintro e w1 ⟨r, H1, rfl, hr, hfresh, hb1⟩
  have hm := made_any a s c es r H1 Z w1 (HS0.out.below hb1) hr (fun k hk hk2 => by have h1 := hfresh k hk; have h2 := HS0.out.lt k hk2; omega) hn
  have HM := Lib.hid hm
  have HB1 := Lib.hid hb1
  have HFR := Lib.hid hfresh
  obtain ⟨TZ, hTZ⟩ : ∃ TZ, tyOf Z = TZ := ⟨_, rfl⟩
  have HTZ := Lib.hid hTZ
  simp only [hTZ]
  clear hm hb1 hfresh hr hTZ
  go_wp2_with fail
  refine (HTZ.out ▸ HM.out).mono ?_
  rintro e w2 ⟨rfl, s', c', hs2, hf2⟩
  have hf : Fr (foot a s c es) (foot a s' c' (es ++ [Ent.mk r H1 Z])) w w2 := by
    refine ⟨hf2.os.trans (HB1.out.os.trans HB0.out.os), hf2.tape.trans (HB1.out.tape.trans HB0.out.tape), hf2.output.trans (HB1.out.output.trans HB0.out.output), Nat.le_trans HB0.out.size (Nat.le_trans HB1.out.size hf2.size), fun k hk hn => ?_, fun k hk => ?_⟩
    · refine (hf2.block k (Nat.lt_of_lt_of_le hk (Nat.le_trans HB0.out.size HB1.out.size)) (fun e => ?_)).trans ((HB1.out.block k (Nat.lt_of_lt_of_le hk HB0.out.size)).trans (HB0.out.block k hk))
      rcases List.mem_append.1 e with e | e
      · exact hn e
      · have := HFR.out k e; have := HB0.out.size; omega
    · rcases hf2.next k hk with e | e
      · rcases List.mem_append.1 e with e | e
        · exact .inl e
        · have := HFR.out k e; have := HB0.out.size; exact .inr (by omega)
      · exact .inr (Nat.le_trans (Nat.le_trans HB0.out.size HB1.out.size) e)
  have HS2 := Lib.hid hs2
  have HF := Lib.hid hf
  clear hs2 hf2 hf
  go_wp2_with fail
  go_end0
  exact ⟨rfl, s', c', r, H1, HS2.out, HF.out⟩

set_option maxRecDepth 100000 in
set_option maxHeartbeats 1000000 in
theorem step11_two (f : FuncId) (X Y Z : Arr) (hmk : Makes f X Y Z) (T : TypeId) (hT : tyOf X = T) (hm : ∀ (v : Value) (w : World), (method 267 T v "Or").run Tryz.prog w = .ok (f, v) w) (hcf : ∀ (args : Array Value) (w : World), (callFunc f args).run Tryz.prog w = .ok (.enter f args) w) (a : Nat) (s : Option Addr) (c : Nat) (es : List Ent) (i j p q1 : Nat) (F G : List Nat) (k : Nat) (most : Int) (all : Bool) (w : World) (h : Sta w a s c es) (hn : es.length ≤ 1000) (hi : es[i]? = some ⟨p, F, X⟩) (hj : es[j]? = some ⟨q1, G, Y⟩) :
    Calls Tryz.prog 22 #[.pointer (some ⟨a, 0, none⟩), stepV 11 (i : Int) (j : Int) k most all] w fun e w' => e = .returned (ansV false 0 (.slice none 0 0)) ∧ ∃ s' c' r H, Sta w' a s' c' (es ++ [Ent.mk r H Z]) ∧ Fr (foot a s c es) (foot a s' c' (es ++ [Ent.mk r H Z])) w w' := by
  have HTW := Lib.hid (two11_any f X Y Z hmk T hT hm hcf)
  unfold stepV at HTW
  unfold stepV ansV
  have hmf : ∀ (fn : Fn) (first cap : Array Value) (w : World), (Instr.makeFunc fn first cap).run Tryz.prog w = .ok (.func fn first cap) w := fun _ _ _ _ => rfl
  have H := Lib.hid h
  have HI := Lib.hid hi
  have HJ := Lib.hid hj
  have HT := Lib.hid hT
  clear h hi hj hm hcf hmk hT
  go_enter_defers Tryz.func22, Tryz.ntmps22
  go_wp2_with fail
  have hbg := began w #[.int .i64 11, .int .i64 (i : Int), .int .i64 (j : Int), .int .u64 (k : Int), .int .i64 most, .bool all]
  obtain ⟨w0, hw0⟩ : ∃ w0, (w.alloc (Obj.cells #[.int .i64 11, .int .i64 (i : Int), .int .i64 (j : Int), .int .u64 (k : Int), .int .i64 most, .bool all] 33)).alloc (.cells #[.bool false, .int .u64 0, .slice none 0 0, .bool false] 44) = w0 := ⟨_, rfl⟩
  rw [hw0] at hbg ⊢
  obtain ⟨q, hq⟩ : ∃ q, w.heap.size + 1 = q := ⟨_, rfl⟩
  obtain ⟨b0, hb⟩ : ∃ b0, w.heap.size = b0 := ⟨_, rfl⟩
  rw [hq] at hbg ⊢
  rw [hb] at hbg ⊢
  have HBG := Lib.hid hbg
  have hst0 := H.out.below hbg.below
  have HST0 := Lib.hid hst0
  have x0 : w0.cell? ⟨b0, 0, none⟩ = some (.int .i64 11) := hbg.box.cell 0 rfl
  have x1 : w0.cell? ⟨b0, 1, none⟩ = some (.int .i64 (i : Int)) := hbg.box.cell 1 rfl
  have x2 : w0.cell? ⟨b0, 2, none⟩ = some (.int .i64 (j : Int)) := hbg.box.cell 2 rfl
  have x3 : w0.cell? ⟨b0, 3, none⟩ = some (.int .u64 (k : Int)) := hbg.box.cell 3 rfl
  have x4 : w0.cell? ⟨b0, 4, none⟩ = some (.int .i64 most) := hbg.box.cell 4 rfl
  have x5 : w0.cell? ⟨b0, 5, none⟩ = some (.bool all) := hbg.box.cell 5 rfl
  have hat := arat_any a s c es i _ w0 hst0 HI.out hn
  have HAT := Lib.hid hat
  have hx : ArrAt w0 p F X := hst0.at_ _ (List.mem_of_getElem? HI.out)
  have hcc := HTW.out a s c es (i : Int) j p q1 F G k most all w0 q hst0 hn hx HJ.out
  have HC := Lib.hid hcc
  clear hw0 hq hb hbg hst0 hat hcc hx
  refine HAT.out.mono ?_
  rintro e w' ⟨rfl, rfl⟩
  simp only [HT.out]
  go_wp2_with fail
  refine HC.out.mono ?_
  rintro e w1 ⟨rfl, s', c', r, H1, hs1, hf1⟩
  have hlt := H.out.lt
  obtain ⟨hbx, hA1⟩ := HBG.out.keep hf1 hlt
  have hqn : q ∉ foot a s' c' (es ++ [Ent.mk r H1 Z]) := fun e => by
    have h1 := HBG.out.hq
    have h2 := HBG.out.size
    rcases hf1.next q e with e | e
    · have := hlt q e; omega
    · omega
  have k0 : w1.cell? ⟨q, 0, none⟩ = some (.bool false) := hA1.cell 0 rfl
  have k1 : w1.cell? ⟨q, 1, none⟩ = some (.int .u64 ((0 : Nat) : Int)) := hA1.cell 1 rfl
  have k2 : w1.cell? ⟨q, 2, none⟩ = some (.slice none 0 0) := hA1.cell 2 rfl
  have k3 : w1.cell? ⟨q, 3, none⟩ = some (.bool false) := hA1.cell 3 rfl
  have f0 := hA1.free 0
  have f1 := hA1.free 1
  have f2 := hA1.free 2
  have f3 := hA1.free 3
  have HA1 := Lib.hid hA1
  have HS1 := Lib.hid hs1
  have HF1 := Lib.hid hf1
  have HQN := Lib.hid hqn
  clear hs1 hf1 hA1 hlt hbx hqn
  go_wp2_with fail
  refine step_end (q := q) (by rfl) (ans_again HA1.out) ⟨rfl, s', c', r, H1, HS1.out.done (fr_again w1 q _ _ _ _) HQN.out, step_fr HBG.out HF1.out H.out.lt (fr_again w1 q _ _ _ _)⟩

theorem does11_two (f : FuncId) (X Y Z : Arr) (hmk : Makes f X Y Z) (T : TypeId) (hT : tyOf X = T) (hm : ∀ (v : Value) (w : World), (method 267 T v "Or").run Tryz.prog w = .ok (f, v) w) (hcf : ∀ (args : Array Value) (w : World), (callFunc f args).run Tryz.prog w = .ok (.enter f args) w) (σ : List Arr) (t : Stp) (h : t.op = 11) (hi : σ[t.on]? = some X) (hj : σ[t.by_]? = some Y) : Does σ t (σ ++ [Z]) ⟨false, 0, []⟩ := by
  intro w a s c es hs hσ hl
  rw [h]
  obtain ⟨p, F, he⟩ := ent_of hσ hi
  obtain ⟨q1, G, hg⟩ := ent_of hσ hj
  refine (step11_two f X Y Z hmk T hT hm hcf a s c es t.on t.by_ p q1 F G t.k _ _ w hs hl he hg).mono fun e w' ⟨he, s', c', r, H, h1, h2⟩ => ?_
  exact Left.plain he (by rw [List.map_append, hσ]; rfl) h1 h2

set_option maxRecDepth 100000 in
set_option maxHeartbeats 1000000 in
theorem two12_any (f : FuncId) (X Y Z : Arr) (hmk : Makes f X Y Z) (T : TypeId) (hT : tyOf X = T) (hm : ∀ (v : Value) (w : World), (method 267 T v "And").run Tryz.prog w = .ok (f, v) w) (hcf : ∀ (args : Array Value) (w : World), (callFunc f args).run Tryz.prog w = .ok (.enter f args) w) (a : Nat) (s : Option Addr) (c : Nat) (es : List Ent) (on : Int) (j p q1 : Nat) (F G : List Nat) (k : Nat) (most : Int) (all : Bool) (w : World) (q : Nat) (h : Sta w a s c es) (hn : es.length ≤ 1000) (hp : ArrAt w p F X) (hj : es[j]? = some ⟨q1, G, Y⟩) :
    Calls Tryz.prog 36 #[.pointer (some ⟨a, 0, none⟩), stepV 12 on (j : Int) k most all, .iface T (.pointer (some ⟨p, 0, none⟩)), .pointer (some ⟨q, 0, none⟩)] w fun e w' => e = .returned (.tuple #[]) ∧
      ∃ s' c' r H, Sta w' a s' c' (es ++ [Ent.mk r H Z]) ∧ Fr (foot a s c es) (foot a s' c' (es ++ [Ent.mk r H Z])) w w' := by
  unfold stepV
  have H := Lib.hid h
  have HMK := Lib.hid hmk
  have HP := Lib.hid hp
  have HJ := Lib.hid hj
  have HT := Lib.hid hT
  have hmp := hm (.pointer (some ⟨p, 0, none⟩))
  clear h hmk hp hj hm hT
  go_enter Tryz.func36, Tryz.ntmps36
  go_wp2_with fail
  have hb0 : Below w.heap.size w (w.alloc (.cells #[.int .i64 12, .int .i64 on, .int .i64 (j : Int), .int .u64 (k : Int), .int .i64 most, .bool all] 33)) := (Below.refl _ _).alloc (Nat.le_refl _) _
  have x0 : (w.alloc (.cells #[.int .i64 12, .int .i64 on, .int .i64 (j : Int), .int .u64 (k : Int), .int .i64 most, .bool all] 33)).cell? ⟨w.heap.size, 0, none⟩ = some (.int .i64 12) := (Blk.new w _ _).cell 0 rfl
  obtain ⟨w0, hw0⟩ : ∃ w0, w.alloc (.cells #[.int .i64 12, .int .i64 on, .int .i64 (j : Int), .int .u64 (k : Int), .int .i64 most, .bool all] 33) = w0 := ⟨_, rfl⟩
  rw [hw0] at hb0 x0 ⊢
  have hst := H.out.below hb0
  have hat := arat_any a s c es j _ w0 hst HJ.out hn
  have hy : ArrAt w0 q1 G Y := hst.at_ _ (List.mem_of_getElem? HJ.out)
  have hcc := HMK.out w0 p F q1 G (HP.out.below hb0) hy
  have HAT := Lib.hid hat
  have HCC := Lib.hid hcc
  have HS0 := Lib.hid hst
  have HB0 := Lib.hid hb0
  clear hw0 hb0 hst hat hcc hy
  refine HAT.out.mono ?_
  rintro e w' ⟨rfl, rfl⟩
  obtain ⟨TY, hTY⟩ : ∃ TY, tyOf Y = TY := ⟨_, rfl⟩
  have HTY := Lib.hid hTY
  simp only [hTY]
  clear hTY
  go_wp2_with fail
  refine (HTY.out ▸ HCC.out).mono ?_
  rintro e w1 ⟨r, H1, rfl, hr, hfresh, hb1⟩
  have hm := made_any a s c es r H1 Z w1 (HS0.out.below hb1) hr (fun k hk hk2 => by have h1 := hfresh k hk; have h2 := HS0.out.lt k hk2; omega) hn
  have HM := Lib.hid hm
  have HB1 := Lib.hid hb1
  have HFR := Lib.hid hfresh
  obtain ⟨TZ, hTZ⟩ : ∃ TZ, tyOf Z = TZ := ⟨_, rfl⟩
  have HTZ := Lib.hid hTZ
  simp only [hTZ]
  clear hm hb1 hfresh hr hTZ
  go_wp2_with fail
  refine (HTZ.out ▸ HM.out).mono ?_
  rintro e w2 ⟨rfl, s', c', hs2, hf2⟩
  have hf : Fr (foot a s c es) (foot a s' c' (es ++ [Ent.mk r H1 Z])) w w2 := by
    refine ⟨hf2.os.trans (HB1.out.os.trans HB0.out.os), hf2.tape.trans (HB1.out.tape.trans HB0.out.tape), hf2.output.trans (HB1.out.output.trans HB0.out.output), Nat.le_trans HB0.out.size (Nat.le_trans HB1.out.size hf2.size), fun k hk hn => ?_, fun k hk => ?_⟩
    · refine (hf2.block k (Nat.lt_of_lt_of_le hk (Nat.le_trans HB0.out.size HB1.out.size)) (fun e => ?_)).trans ((HB1.out.block k (Nat.lt_of_lt_of_le hk HB0.out.size)).trans (HB0.out.block k hk))
      rcases List.mem_append.1 e with e | e
      · exact hn e
      · have := HFR.out k e; have := HB0.out.size; omega
    · rcases hf2.next k hk with e | e
      · rcases List.mem_append.1 e with e | e
        · exact .inl e
        · have := HFR.out k e; have := HB0.out.size; exact .inr (by omega)
      · exact .inr (Nat.le_trans (Nat.le_trans HB0.out.size HB1.out.size) e)
  have HS2 := Lib.hid hs2
  have HF := Lib.hid hf
  clear hs2 hf2 hf
  go_wp2_with fail
  go_end0
  exact ⟨rfl, s', c', r, H1, HS2.out, HF.out⟩

set_option maxRecDepth 100000 in
set_option maxHeartbeats 1000000 in
theorem step12_two (f : FuncId) (X Y Z : Arr) (hmk : Makes f X Y Z) (T : TypeId) (hT : tyOf X = T) (hm : ∀ (v : Value) (w : World), (method 267 T v "And").run Tryz.prog w = .ok (f, v) w) (hcf : ∀ (args : Array Value) (w : World), (callFunc f args).run Tryz.prog w = .ok (.enter f args) w) (a : Nat) (s : Option Addr) (c : Nat) (es : List Ent) (i j p q1 : Nat) (F G : List Nat) (k : Nat) (most : Int) (all : Bool) (w : World) (h : Sta w a s c es) (hn : es.length ≤ 1000) (hi : es[i]? = some ⟨p, F, X⟩) (hj : es[j]? = some ⟨q1, G, Y⟩) :
    Calls Tryz.prog 22 #[.pointer (some ⟨a, 0, none⟩), stepV 12 (i : Int) (j : Int) k most all] w fun e w' => e = .returned (ansV false 0 (.slice none 0 0)) ∧ ∃ s' c' r H, Sta w' a s' c' (es ++ [Ent.mk r H Z]) ∧ Fr (foot a s c es) (foot a s' c' (es ++ [Ent.mk r H Z])) w w' := by
  have HTW := Lib.hid (two12_any f X Y Z hmk T hT hm hcf)
  unfold stepV at HTW
  unfold stepV ansV
  have hmf : ∀ (fn : Fn) (first cap : Array Value) (w : World), (Instr.makeFunc fn first cap).run Tryz.prog w = .ok (.func fn first cap) w := fun _ _ _ _ => rfl
  have H := Lib.hid h
  have HI := Lib.hid hi
  have HJ := Lib.hid hj
  have HT := Lib.hid hT
  clear h hi hj hm hcf hmk hT
  go_enter_defers Tryz.func22, Tryz.ntmps22
  go_wp2_with fail
  have hbg := began w #[.int .i64 12, .int .i64 (i : Int), .int .i64 (j : Int), .int .u64 (k : Int), .int .i64 most, .bool all]
  obtain ⟨w0, hw0⟩ : ∃ w0, (w.alloc (Obj.cells #[.int .i64 12, .int .i64 (i : Int), .int .i64 (j : Int), .int .u64 (k : Int), .int .i64 most, .bool all] 33)).alloc (.cells #[.bool false, .int .u64 0, .slice none 0 0, .bool false] 44) = w0 := ⟨_, rfl⟩
  rw [hw0] at hbg ⊢
  obtain ⟨q, hq⟩ : ∃ q, w.heap.size + 1 = q := ⟨_, rfl⟩
  obtain ⟨b0, hb⟩ : ∃ b0, w.heap.size = b0 := ⟨_, rfl⟩
  rw [hq] at hbg ⊢
  rw [hb] at hbg ⊢
  have HBG := Lib.hid hbg
  have hst0 := H.out.below hbg.below
  have HST0 := Lib.hid hst0
  have x0 : w0.cell? ⟨b0, 0, none⟩ = some (.int .i64 12) := hbg.box.cell 0 rfl
  have x1 : w0.cell? ⟨b0, 1, none⟩ = some (.int .i64 (i : Int)) := hbg.box.cell 1 rfl
  have x2 : w0.cell? ⟨b0, 2, none⟩ = some (.int .i64 (j : Int)) := hbg.box.cell 2 rfl
  have x3 : w0.cell? ⟨b0, 3, none⟩ = some (.int .u64 (k : Int)) := hbg.box.cell 3 rfl
  have x4 : w0.cell? ⟨b0, 4, none⟩ = some (.int .i64 most) := hbg.box.cell 4 rfl
  have x5 : w0.cell? ⟨b0, 5, none⟩ = some (.bool all) := hbg.box.cell 5 rfl
  have hat := arat_any a s c es i _ w0 hst0 HI.out hn
  have HAT := Lib.hid hat
  have hx : ArrAt w0 p F X := hst0.at_ _ (List.mem_of_getElem? HI.out)
  have hcc := HTW.out a s c es (i : Int) j p q1 F G k most all w0 q hst0 hn hx HJ.out
  have HC := Lib.hid hcc
  clear hw0 hq hb hbg hst0 hat hcc hx
  refine HAT.out.mono ?_
  rintro e w' ⟨rfl, rfl⟩
  simp only [HT.out]
  go_wp2_with fail
  refine HC.out.mono ?_
  rintro e w1 ⟨rfl, s', c', r, H1, hs1, hf1⟩
  have hlt := H.out.lt
  obtain ⟨hbx, hA1⟩ := HBG.out.keep hf1 hlt
  have hqn : q ∉ foot a s' c' (es ++ [Ent.mk r H1 Z]) := fun e => by
    have h1 := HBG.out.hq
    have h2 := HBG.out.size
    rcases hf1.next q e with e | e
    · have := hlt q e; omega
    · omega
  have k0 : w1.cell? ⟨q, 0, none⟩ = some (.bool false) := hA1.cell 0 rfl
  have k1 : w1.cell? ⟨q, 1, none⟩ = some (.int .u64 ((0 : Nat) : Int)) := hA1.cell 1 rfl
  have k2 : w1.cell? ⟨q, 2, none⟩ = some (.slice none 0 0) := hA1.cell 2 rfl
  have k3 : w1.cell? ⟨q, 3, none⟩ = some (.bool false) := hA1.cell 3 rfl
  have f0 := hA1.free 0
  have f1 := hA1.free 1
  have f2 := hA1.free 2
  have f3 := hA1.free 3
  have HA1 := Lib.hid hA1
  have HS1 := Lib.hid hs1
  have HF1 := Lib.hid hf1
  have HQN := Lib.hid hqn
  clear hs1 hf1 hA1 hlt hbx hqn
  go_wp2_with fail
  refine step_end (q := q) (by rfl) (ans_again HA1.out) ⟨rfl, s', c', r, H1, HS1.out.done (fr_again w1 q _ _ _ _) HQN.out, step_fr HBG.out HF1.out H.out.lt (fr_again w1 q _ _ _ _)⟩

theorem does12_two (f : FuncId) (X Y Z : Arr) (hmk : Makes f X Y Z) (T : TypeId) (hT : tyOf X = T) (hm : ∀ (v : Value) (w : World), (method 267 T v "And").run Tryz.prog w = .ok (f, v) w) (hcf : ∀ (args : Array Value) (w : World), (callFunc f args).run Tryz.prog w = .ok (.enter f args) w) (σ : List Arr) (t : Stp) (h : t.op = 12) (hi : σ[t.on]? = some X) (hj : σ[t.by_]? = some Y) : Does σ t (σ ++ [Z]) ⟨false, 0, []⟩ := by
  intro w a s c es hs hσ hl
  rw [h]
  obtain ⟨p, F, he⟩ := ent_of hσ hi
  obtain ⟨q1, G, hg⟩ := ent_of hσ hj
  refine (step12_two f X Y Z hmk T hT hm hcf a s c es t.on t.by_ p q1 F G t.k _ _ w hs hl he hg).mono fun e w' ⟨he, s', c', r, H, h1, h2⟩ => ?_
  exact Left.plain he (by rw [List.map_append, hσ]; rfl) h1 h2

set_option maxRecDepth 100000 in
set_option maxHeartbeats 1000000 in
theorem two13_any (f : FuncId) (X Y Z : Arr) (hmk : Makes f X Y Z) (T : TypeId) (hT : tyOf X = T) (hm : ∀ (v : Value) (w : World), (method 267 T v "Nand").run Tryz.prog w = .ok (f, v) w) (hcf : ∀ (args : Array Value) (w : World), (callFunc f args).run Tryz.prog w = .ok (.enter f args) w) (a : Nat) (s : Option Addr) (c : Nat) (es : List Ent) (on : Int) (j p q1 : Nat) (F G : List Nat) (k : Nat) (most : Int) (all : Bool) (w : World) (q : Nat) (h : Sta w a s c es) (hn : es.length ≤ 1000) (hp : ArrAt w p F X) (hj : es[j]? = some ⟨q1, G, Y⟩) :
    Calls Tryz.prog 36 #[.pointer (some ⟨a, 0, none⟩), stepV 13 on (j : Int) k most all, .iface T (.pointer (some ⟨p, 0, none⟩)), .pointer (some ⟨q, 0, none⟩)] w fun e w' => e = .returned (.tuple #[]) ∧
      ∃ s' c' r H, Sta w' a s' c' (es ++ [Ent.mk r H Z]) ∧ Fr (foot a s c es) (foot a s' c' (es ++ [Ent.mk r H Z])) w w' := by
  unfold stepV
  have H := Lib.hid h
  have HMK := Lib.hid hmk
  have HP := Lib.hid hp
  have HJ := Lib.hid hj
  have HT := Lib.hid hT
  have hmp := hm (.pointer (some ⟨p, 0, none⟩))
  clear h hmk hp hj hm hT
  go_enter Tryz.func36, Tryz.ntmps36
  go_wp2_with fail
  have hb0 : Below w.heap.size w (w.alloc (.cells #[.int .i64 13, .int .i64 on, .int .i64 (j : Int), .int .u64 (k : Int), .int .i64 most, .bool all] 33)) := (Below.refl _ _).alloc (Nat.le_refl _) _
  have x0 : (w.alloc (.cells #[.int .i64 13, .int .i64 on, .int .i64 (j : Int), .int .u64 (k : Int), .int .i64 most, .bool all] 33)).cell? ⟨w.heap.size, 0, none⟩ = some (.int .i64 13) := (Blk.new w _ _).cell 0 rfl
  obtain ⟨w0, hw0⟩ : ∃ w0, w.alloc (.cells #[.int .i64 13, .int .i64 on, .int .i64 (j : Int), .int .u64 (k : Int), .int .i64 most, .bool all] 33) = w0 := ⟨_, rfl⟩
  rw [hw0] at hb0 x0 ⊢
  have hst := H.out.below hb0
  have hat := arat_any a s c es j _ w0 hst HJ.out hn
  have hy : ArrAt w0 q1 G Y := hst.at_ _ (List.mem_of_getElem? HJ.out)
  have hcc := HMK.out w0 p F q1 G (HP.out.below hb0) hy
  have HAT := Lib.hid hat
  have HCC := Lib.hid hcc
  have HS0 := Lib.hid hst
  have HB0 := Lib.hid hb0
  clear hw0 hb0 hst hat hcc hy
  refine HAT.out.mono ?_
  rintro e w' ⟨rfl, rfl⟩
  obtain ⟨TY, hTY⟩ : ∃ TY, tyOf Y = TY := ⟨_, rfl⟩
  have HTY := Lib.hid hTY
  simp only [hTY]
  clear hTY
  go_wp2_with fail
  refine (HTY.out ▸ HCC.out).mono ?_
  rintro e w1 ⟨r, H1, rfl, hr, hfresh, hb1⟩
  have hm := made_any a s c es r H1 Z w1 (HS0.out.below hb1) hr (fun k hk hk2 => by have h1 := hfresh k hk; have h2 := HS0.out.lt k hk2; omega) hn
  have HM := Lib.hid hm
  have HB1 := Lib.hid hb1
  have HFR := Lib.hid hfresh
  obtain ⟨TZ, hTZ⟩ : ∃ TZ, tyOf Z = TZ := ⟨_, rfl⟩
  have HTZ := Lib.hid hTZ
  simp only [hTZ]
  clear hm hb1 hfresh hr hTZ
  go_wp2_with fail
  refine (HTZ.out ▸ HM.out).mono ?_
  rintro e w2 ⟨rfl, s', c', hs2, hf2⟩
  have hf : Fr (foot a s c es) (foot a s' c' (es ++ [Ent.mk r H1 Z])) w w2 := by
    refine ⟨hf2.os.trans (HB1.out.os.trans HB0.out.os), hf2.tape.trans (HB1.out.tape.trans HB0.out.tape), hf2.output.trans (HB1.out.output.trans HB0.out.output), Nat.le_trans HB0.out.size (Nat.le_trans HB1.out.size hf2.size), fun k hk hn => ?_, fun k hk => ?_⟩
    · refine (hf2.block k (Nat.lt_of_lt_of_le hk (Nat.le_trans HB0.out.size HB1.out.size)) (fun e => ?_)).trans ((HB1.out.block k (Nat.lt_of_lt_of_le hk HB0.out.size)).trans (HB0.out.block k hk))
      rcases List.mem_append.1 e with e | e
      · exact hn e
      · have := HFR.out k e; have := HB0.out.size; omega
    · rcases hf2.next k hk with e | e
      · rcases List.mem_append.1 e with e | e
        · exact .inl e
        · have := HFR.out k e; have := HB0.out.size; exact .inr (by omega)
      · exact .inr (Nat.le_trans (Nat.le_trans HB0.out.size HB1.out.size) e)
  have HS2 := Lib.hid hs2
  have HF := Lib.hid hf
  clear hs2 hf2 hf
  go_wp2_with fail
  go_end0
  exact ⟨rfl, s', c', r, H1, HS2.out, HF.out⟩

set_option maxRecDepth 100000 in
set_option maxHeartbeats 1000000 in
theorem step13_two (f : FuncId) (X Y Z : Arr) (hmk : Makes f X Y Z) (T : TypeId) (hT : tyOf X = T) (hm : ∀ (v : Value) (w : World), (method 267 T v "Nand").run Tryz.prog w = .ok (f, v) w) (hcf : ∀ (args : Array Value) (w : World), (callFunc f args).run Tryz.prog w = .ok (.enter f args) w) (a : Nat) (s : Option Addr) (c : Nat) (es : List Ent) (i j p q1 : Nat) (F G : List Nat) (k : Nat) (most : Int) (all : Bool) (w : World) (h : Sta w a s c es) (hn : es.length ≤ 1000) (hi : es[i]? = some ⟨p, F, X⟩) (hj : es[j]? = some ⟨q1, G, Y⟩) :
    Calls Tryz.prog 22 #[.pointer (some ⟨a, 0, none⟩), stepV 13 (i : Int) (j : Int) k most all] w fun e w' => e = .returned (ansV false 0 (.slice none 0 0)) ∧ ∃ s' c' r H, Sta w' a s' c' (es ++ [Ent.mk r H Z]) ∧ Fr (foot a s c es) (foot a s' c' (es ++ [Ent.mk r H Z])) w w' := by
  have HTW := Lib.hid (two13_any f X Y Z hmk T hT hm hcf)
  unfold stepV at HTW
  unfold stepV ansV
  have hmf : ∀ (fn : Fn) (first cap : Array Value) (w : World), (Instr.makeFunc fn first cap).run Tryz.prog w = .ok (.func fn first cap) w := fun _ _ _ _ => rfl
  have H := Lib.hid h
  have HI := Lib.hid hi
  have HJ := Lib.hid hj
  have HT := Lib.hid hT
  clear h hi hj hm hcf hmk hT
  go_enter_defers Tryz.func22, Tryz.ntmps22
  go_wp2_with fail
  have hbg := began w #[.int .i64 13, .int .i64 (i : Int), .int .i64 (j : Int), .int .u64 (k : Int), .int .i64 most, .bool all]
  obtain ⟨w0, hw0⟩ : ∃ w0, (w.alloc (Obj.cells #[.int .i64 13, .int .i64 (i : Int), .int .i64 (j : Int), .int .u64 (k : Int), .int .i64 most, .bool all] 33)).alloc (.cells #[.bool false, .int .u64 0, .slice none 0 0, .bool false] 44) = w0 := ⟨_, rfl⟩
  rw [hw0] at hbg ⊢
  obtain ⟨q, hq⟩ : ∃ q, w.heap.size + 1 = q := ⟨_, rfl⟩
  obtain ⟨b0, hb⟩ : ∃ b0, w.heap.size = b0 := ⟨_, rfl⟩
  rw [hq] at hbg ⊢
  rw [hb] at hbg ⊢
  have HBG := Lib.hid hbg
  have hst0 := H.out.below hbg.below
  have HST0 := Lib.hid hst0
  have x0 : w0.cell? ⟨b0, 0, none⟩ = some (.int .i64 13) := hbg.box.cell 0 rfl
  have x1 : w0.cell? ⟨b0, 1, none⟩ = some (.int .i64 (i : Int)) := hbg.box.cell 1 rfl
  have x2 : w0.cell? ⟨b0, 2, none⟩ = some (.int .i64 (j : Int)) := hbg.box.cell 2 rfl
  have x3 : w0.cell? ⟨b0, 3, none⟩ = some (.int .u64 (k : Int)) := hbg.box.cell 3 rfl
  have x4 : w0.cell? ⟨b0, 4, none⟩ = some (.int .i64 most) := hbg.box.cell 4 rfl
  have x5 : w0.cell? ⟨b0, 5, none⟩ = some (.bool all) := hbg.box.cell 5 rfl
  have hat := arat_any a s c es i _ w0 hst0 HI.out hn
  have HAT := Lib.hid hat
  have hx : ArrAt w0 p F X := hst0.at_ _ (List.mem_of_getElem? HI.out)
  have hcc := HTW.out a s c es (i : Int) j p q1 F G k most all w0 q hst0 hn hx HJ.out
  have HC := Lib.hid hcc
  clear hw0 hq hb hbg hst0 hat hcc hx
  refine HAT.out.mono ?_
  rintro e w' ⟨rfl, rfl⟩
  simp only [HT.out]
  go_wp2_with fail
  refine HC.out.mono ?_
  rintro e w1 ⟨rfl, s', c', r, H1, hs1, hf1⟩
  have hlt := H.out.lt
  obtain ⟨hbx, hA1⟩ := HBG.out.keep hf1 hlt
  have hqn : q ∉ foot a s' c' (es ++ [Ent.mk r H1 Z]) := fun e => by
    have h1 := HBG.out.hq
    have h2 := HBG.out.size
    rcases hf1.next q e with e | e
    · have := hlt q e; omega
    · omega
  have k0 : w1.cell? ⟨q, 0, none⟩ = some (.bool false) := hA1.cell 0 rfl
  have k1 : w1.cell? ⟨q, 1, none⟩ = some (.int .u64 ((0 : Nat) : Int)) := hA1.cell 1 rfl
  have k2 : w1.cell? ⟨q, 2, none⟩ = some (.slice none 0 0) := hA1.cell 2 rfl
  have k3 : w1.cell? ⟨q, 3, none⟩ = some (.bool false) := hA1.cell 3 rfl
  have f0 := hA1.free 0
  have f1 := hA1.free 1
  have f2 := hA1.free 2
  have f3 := hA1.free 3
  have HA1 := Lib.hid hA1
  have HS1 := Lib.hid hs1
  have HF1 := Lib.hid hf1
  have HQN := Lib.hid hqn
  clear hs1 hf1 hA1 hlt hbx hqn
  go_wp2_with fail
  refine step_end (q := q) (by rfl) (ans_again HA1.out) ⟨rfl, s', c', r, H1, HS1.out.done (fr_again w1 q _ _ _ _) HQN.out, step_fr HBG.out HF1.out H.out.lt (fr_again w1 q _ _ _ _)⟩

theorem does13_two (f : FuncId) (X Y Z : Arr) (hmk : Makes f X Y Z) (T : TypeId) (hT : tyOf X = T) (hm : ∀ (v : Value) (w : World), (method 267 T v "Nand").run Tryz.prog w = .ok (f, v) w) (hcf : ∀ (args : Array Value) (w : World), (callFunc f args).run Tryz.prog w = .ok (.enter f args) w) (σ : List Arr) (t : Stp) (h : t.op = 13) (hi : σ[t.on]? = some X) (hj : σ[t.by_]? = some Y) : Does σ t (σ ++ [Z]) ⟨false, 0, []⟩ := by
  intro w a s c es hs hσ hl
  rw [h]
  obtain ⟨p, F, he⟩ := ent_of hσ hi
  obtain ⟨q1, G, hg⟩ := ent_of hσ hj
  refine (step13_two f X Y Z hmk T hT hm hcf a s c es t.on t.by_ p q1 F G t.k _ _ w hs hl he hg).mono fun e w' ⟨he, s', c', r, H, h1, h2⟩ => ?_
  exact Left.plain he (by rw [List.map_append, hσ]; rfl) h1 h2

set_option maxRecDepth 100000 in
set_option maxHeartbeats 1000000 in
theorem two7_any (f : FuncId) (X Y : Arr) (b : Bool) (hmk : Asks f X Y b) (T : TypeId) (hT : tyOf X = T) (hm : ∀ (v : Value) (w : World), (method 267 T v "Equals").run Tryz.prog w = .ok (f, v) w) (hcf : ∀ (args : Array Value) (w : World), (callFunc f args).run Tryz.prog w = .ok (.enter f args) w) (a : Nat) (s : Option Addr) (c : Nat) (es : List Ent) (on : Int) (j p q1 : Nat) (F G : List Nat) (k : Nat) (most : Int) (all : Bool) (w : World) (q : Nat) (u1 u2 u3 : Value) (hq : Blk w q 44 #[.bool false, u1, u2, u3]) (h : Sta w a s c es) (hn : es.length ≤ 1000) (hp : ArrAt w p F X) (hj : es[j]? = some ⟨q1, G, Y⟩) :
    Calls Tryz.prog 36 #[.pointer (some ⟨a, 0, none⟩), stepV 7 on (j : Int) k most all, .iface T (.pointer (some ⟨p, 0, none⟩)), .pointer (some ⟨q, 0, none⟩)] w fun e w' => e = .returned (.tuple #[]) ∧
      Blk w' q 44 #[.bool b, u1, u2, u3] ∧ Fr [q] [q] w w' := by
  unfold stepV
  have H := Lib.hid h
  have HMK := Lib.hid hmk
  have HP := Lib.hid hp
  have HJ := Lib.hid hj
  have HT := Lib.hid hT
  have HQ := Lib.hid hq
  have hmp := hm (.pointer (some ⟨p, 0, none⟩))
  clear h hmk hp hj hm hT hq
  go_enter Tryz.func36, Tryz.ntmps36
  go_wp2_with fail
  have hb0 : Below w.heap.size w (w.alloc (.cells #[.int .i64 7, .int .i64 on, .int .i64 (j : Int), .int .u64 (k : Int), .int .i64 most, .bool all] 33)) := (Below.refl _ _).alloc (Nat.le_refl _) _
  have x0 : (w.alloc (.cells #[.int .i64 7, .int .i64 on, .int .i64 (j : Int), .int .u64 (k : Int), .int .i64 most, .bool all] 33)).cell? ⟨w.heap.size, 0, none⟩ = some (.int .i64 7) := (Blk.new w _ _).cell 0 rfl
  obtain ⟨w0, hw0⟩ : ∃ w0, w.alloc (.cells #[.int .i64 7, .int .i64 on, .int .i64 (j : Int), .int .u64 (k : Int), .int .i64 most, .bool all] 33) = w0 := ⟨_, rfl⟩
  rw [hw0] at hb0 x0 ⊢
  have hst := H.out.below hb0
  have hat := arat_any a s c es j _ w0 hst HJ.out hn
  have hy : ArrAt w0 q1 G Y := hst.at_ _ (List.mem_of_getElem? HJ.out)
  have hcc := HMK.out w0 p F q1 G (HP.out.below hb0) hy
  have HAT := Lib.hid hat
  have HCC := Lib.hid hcc
  have HB0 := Lib.hid hb0
  clear hw0 hb0 hst hat hcc hy
  refine HAT.out.mono ?_
  rintro e w' ⟨rfl, rfl⟩
  obtain ⟨TY, hTY⟩ : ∃ TY, tyOf Y = TY := ⟨_, rfl⟩
  have HTY := Lib.hid hTY
  simp only [hTY]
  clear hTY
  go_wp2_with fail
  refine (HTY.out ▸ HCC.out).mono ?_
  rintro e w1 ⟨rfl, hb1⟩
  have hb2 : Below w.heap.size w w1 := HB0.out.trans (hb1.mono HB0.out.size)
  have hq1 : Blk w1 q 44 #[.bool false, u1, u2, u3] := (hb2.block q HQ.out.lt).trans HQ.out
  have k0 := hq1.cell 0 rfl
  have f0 := hq1.free 0
  have HQ1 := Lib.hid hq1
  have HB2 := Lib.hid hb2
  clear hb1 hb2 hq1
  go_wp2_with fail
  go_end0
  exact ⟨rfl, HQ1.out.set 0 (.bool b), (Fr.of_below [q] HB2.out).trans (Fr.store w1 (F := [q]) (a := ⟨q, 0, none⟩) (List.mem_singleton.2 rfl) _)⟩

set_option maxRecDepth 100000 in
set_option maxHeartbeats 1000000 in
theorem step7_two (f : FuncId) (X Y : Arr) (b : Bool) (hmk : Asks f X Y b) (T : TypeId) (hT : tyOf X = T) (hm : ∀ (v : Value) (w : World), (method 267 T v "Equals").run Tryz.prog w = .ok (f, v) w) (hcf : ∀ (args : Array Value) (w : World), (callFunc f args).run Tryz.prog w = .ok (.enter f args) w) (a : Nat) (s : Option Addr) (c : Nat) (es : List Ent) (i j p q1 : Nat) (F G : List Nat) (k : Nat) (most : Int) (all : Bool) (w : World) (h : Sta w a s c es) (hn : es.length ≤ 1000) (hi : es[i]? = some ⟨p, F, X⟩) (hj : es[j]? = some ⟨q1, G, Y⟩) :
    Calls Tryz.prog 22 #[.pointer (some ⟨a, 0, none⟩), stepV 7 (i : Int) (j : Int) k most all] w fun e w' => e = .returned (ansV b 0 (.slice none 0 0)) ∧ Sta w' a s c es ∧ Fr (foot a s c es) (foot a s c es) w w' := by
  have HTW := Lib.hid (two7_any f X Y b hmk T hT hm hcf)
  unfold stepV at HTW
  unfold stepV ansV
  have hmf : ∀ (fn : Fn) (first cap : Array Value) (w : World), (Instr.makeFunc fn first cap).run Tryz.prog w = .ok (.func fn first cap) w := fun _ _ _ _ => rfl
  have H := Lib.hid h
  have HI := Lib.hid hi
  have HJ := Lib.hid hj
  have HT := Lib.hid hT
  clear h hi hj hm hcf hmk hT
  go_enter_defers Tryz.func22, Tryz.ntmps22
  go_wp2_with fail
  have hbg := began w #[.int .i64 7, .int .i64 (i : Int), .int .i64 (j : Int), .int .u64 (k : Int), .int .i64 most, .bool all]
  obtain ⟨w0, hw0⟩ : ∃ w0, (w.alloc (Obj.cells #[.int .i64 7, .int .i64 (i : Int), .int .i64 (j : Int), .int .u64 (k : Int), .int .i64 most, .bool all] 33)).alloc (.cells #[.bool false, .int .u64 0, .slice none 0 0, .bool false] 44) = w0 := ⟨_, rfl⟩
  rw [hw0] at hbg ⊢
  obtain ⟨q, hq⟩ : ∃ q, w.heap.size + 1 = q := ⟨_, rfl⟩
  obtain ⟨b0, hb⟩ : ∃ b0, w.heap.size = b0 := ⟨_, rfl⟩
  rw [hq] at hbg ⊢
  rw [hb] at hbg ⊢
  have HBG := Lib.hid hbg
  have hst0 := H.out.below hbg.below
  have HST0 := Lib.hid hst0
  have x0 : w0.cell? ⟨b0, 0, none⟩ = some (.int .i64 7) := hbg.box.cell 0 rfl
  have x1 : w0.cell? ⟨b0, 1, none⟩ = some (.int .i64 (i : Int)) := hbg.box.cell 1 rfl
  have x2 : w0.cell? ⟨b0, 2, none⟩ = some (.int .i64 (j : Int)) := hbg.box.cell 2 rfl
  have x3 : w0.cell? ⟨b0, 3, none⟩ = some (.int .u64 (k : Int)) := hbg.box.cell 3 rfl
  have x4 : w0.cell? ⟨b0, 4, none⟩ = some (.int .i64 most) := hbg.box.cell 4 rfl
  have x5 : w0.cell? ⟨b0, 5, none⟩ = some (.bool all) := hbg.box.cell 5 rfl
  have hat := arat_any a s c es i _ w0 hst0 HI.out hn
  have HAT := Lib.hid hat
  have hx : ArrAt w0 p F X := hst0.at_ _ (List.mem_of_getElem? HI.out)
  have hcc := HTW.out a s c es (i : Int) j p q1 F G k most all w0 q (.int .u64 ((0 : Nat) : Int)) (.slice none 0 0) (.bool false) hbg.ans hst0 hn hx HJ.out
  have HC := Lib.hid hcc
  clear hw0 hq hb hbg hst0 hat hcc hx
  refine HAT.out.mono ?_
  rintro e w' ⟨rfl, rfl⟩
  simp only [HT.out]
  go_wp2_with fail
  refine HC.out.mono ?_
  rintro e w1 ⟨rfl, hA1, hf1⟩
  have hqn : q ∉ foot a s c es := fun e => by
    have h1 := HBG.out.hq
    have := H.out.lt q e; omega
  have k0 : w1.cell? ⟨q, 0, none⟩ = some (.bool b) := hA1.cell 0 rfl
  have k1 : w1.cell? ⟨q, 1, none⟩ = some (.int .u64 ((0 : Nat) : Int)) := hA1.cell 1 rfl
  have k2 : w1.cell? ⟨q, 2, none⟩ = some (.slice none 0 0) := hA1.cell 2 rfl
  have k3 : w1.cell? ⟨q, 3, none⟩ = some (.bool false) := hA1.cell 3 rfl
  have f0 := hA1.free 0
  have f1 := hA1.free 1
  have f2 := hA1.free 2
  have f3 := hA1.free 3
  have HA1 := Lib.hid hA1
  have HF1 := Lib.hid hf1
  have HQN := Lib.hid hqn
  clear hf1 hA1 hqn
  go_wp2_with fail
  refine step_end (q := q) (by rfl) (ans_again HA1.out) ⟨rfl, HST0.out.done (HF1.out.trans (fr_again w1 q _ _ _ _)) HQN.out, step_fr HBG.out (Fr.refl _ w0) H.out.lt (HF1.out.trans (fr_again w1 q _ _ _ _))⟩

theorem does7_two (f : FuncId) (X Y : Arr) (b : Bool) (hmk : Asks f X Y b) (T : TypeId) (hT : tyOf X = T) (hm : ∀ (v : Value) (w : World), (method 267 T v "Equals").run Tryz.prog w = .ok (f, v) w) (hcf : ∀ (args : Array Value) (w : World), (callFunc f args).run Tryz.prog w = .ok (.enter f args) w) (σ : List Arr) (t : Stp) (h : t.op = 7) (hi : σ[t.on]? = some X) (hj : σ[t.by_]? = some Y) : Does σ t σ ⟨b, 0, []⟩ := by
  intro w a s c es hs hσ hl
  rw [h]
  obtain ⟨p, F, he⟩ := ent_of hσ hi
  obtain ⟨q1, G, hg⟩ := ent_of hσ hj
  exact (step7_two f X Y b hmk T hT hm hcf a s c es t.on t.by_ p q1 F G t.k _ _ w hs hl he hg).mono fun e w' ⟨he, h1, h2⟩ => Left.plain he hσ h1 h2

set_option maxRecDepth 100000 in
set_option maxHeartbeats 1000000 in
theorem two8_any (f : FuncId) (X Y : Arr) (b : Bool) (hmk : Asks f X Y b) (T : TypeId) (hT : tyOf X = T) (hm : ∀ (v : Value) (w : World), (method 267 T v "Intersects").run Tryz.prog w = .ok (f, v) w) (hcf : ∀ (args : Array Value) (w : World), (callFunc f args).run Tryz.prog w = .ok (.enter f args) w) (a : Nat) (s : Option Addr) (c : Nat) (es : List Ent) (on : Int) (j p q1 : Nat) (F G : List Nat) (k : Nat) (most : Int) (all : Bool) (w : World) (q : Nat) (u1 u2 u3 : Value) (hq : Blk w q 44 #[.bool false, u1, u2, u3]) (h : Sta w a s c es) (hn : es.length ≤ 1000) (hp : ArrAt w p F X) (hj : es[j]? = some ⟨q1, G, Y⟩) :
    Calls Tryz.prog 36 #[.pointer (some ⟨a, 0, none⟩), stepV 8 on (j : Int) k most all, .iface T (.pointer (some ⟨p, 0, none⟩)), .pointer (some ⟨q, 0, none⟩)] w fun e w' => e = .returned (.tuple #[]) ∧
      Blk w' q 44 #[.bool b, u1, u2, u3] ∧ Fr [q] [q] w w' := by
  unfold stepV
  have H := Lib.hid h
  have HMK := Lib.hid hmk
  have HP := Lib.hid hp
  have HJ := Lib.hid hj
  have HT := Lib.hid hT
  have HQ := Lib.hid hq
  have hmp := hm (.pointer (some ⟨p, 0, none⟩))
  clear h hmk hp hj hm hT hq
  go_enter Tryz.func36, Tryz.ntmps36
  go_wp2_with fail
  have hb0 : Below w.heap.size w (w.alloc (.cells #[.int .i64 8, .int .i64 on, .int .i64 (j : Int), .int .u64 (k : Int), .int .i64 most, .bool all] 33)) := (Below.refl _ _).alloc (Nat.le_refl _) _
  have x0 : (w.alloc (.cells #[.int .i64 8, .int .i64 on, .int .i64 (j : Int), .int .u64 (k : Int), .int .i64 most, .bool all] 33)).cell? ⟨w.heap.size, 0, none⟩ = some (.int .i64 8) := (Blk.new w _ _).cell 0 rfl
  obtain ⟨w0, hw0⟩ : ∃ w0, w.alloc (.cells #[.int .i64 8, .int .i64 on, .int .i64 (j : Int), .int .u64 (k : Int), .int .i64 most, .bool all] 33) = w0 := ⟨_, rfl⟩
  rw [hw0] at hb0 x0 ⊢
  have hst := H.out.below hb0
  have hat := arat_any a s c es j _ w0 hst HJ.out hn
  have hy : ArrAt w0 q1 G Y := hst.at_ _ (List.mem_of_getElem? HJ.out)
  have hcc := HMK.out w0 p F q1 G (HP.out.below hb0) hy
  have HAT := Lib.hid hat
  have HCC := Lib.hid hcc
  have HB0 := Lib.hid hb0
  clear hw0 hb0 hst hat hcc hy
  refine HAT.out.mono ?_
  rintro e w' ⟨rfl, rfl⟩
  obtain ⟨TY, hTY⟩ : ∃ TY, tyOf Y = TY := ⟨_, rfl⟩
  have HTY := Lib.hid hTY
  simp only [hTY]
  clear hTY
  go_wp2_with fail
  refine (HTY.out ▸ HCC.out).mono ?_
  rintro e w1 ⟨rfl, hb1⟩
  have hb2 : Below w.heap.size w w1 := HB0.out.trans (hb1.mono HB0.out.size)
  have hq1 : Blk w1 q 44 #[.bool false, u1, u2, u3] := (hb2.block q HQ.out.lt).trans HQ.out
  have k0 := hq1.cell 0 rfl
  have f0 := hq1.free 0
  have HQ1 := Lib.hid hq1
  have HB2 := Lib.hid hb2
  clear hb1 hb2 hq1
  go_wp2_with fail
  go_end0
  exact ⟨rfl, HQ1.out.set 0 (.bool b), (Fr.of_below [q] HB2.out).trans (Fr.store w1 (F := [q]) (a := ⟨q, 0, none⟩) (List.mem_singleton.2 rfl) _)⟩

set_option maxRecDepth 100000 in
set_option maxHeartbeats 1000000 in
theorem step8_two (f : FuncId) (X Y : Arr) (b : Bool) (hmk : Asks f X Y b) (T : TypeId) (hT : tyOf X = T) (hm : ∀ (v : Value) (w : World), (method 267 T v "Intersects").run Tryz.prog w = .ok (f, v) w) (hcf : ∀ (args : Array Value) (w : World), (callFunc f args).run Tryz.prog w = .ok (.enter f args) w) (a : Nat) (s : Option Addr) (c : Nat) (es : List Ent) (i j p q1 : Nat) (F G : List Nat) (k : Nat) (most : Int) (all : Bool) (w : World) (h : Sta w a s c es) (hn : es.length ≤ 1000) (hi : es[i]? = some ⟨p, F, X⟩) (hj : es[j]? = some ⟨q1, G, Y⟩) :
    Calls Tryz.prog 22 #[.pointer (some ⟨a, 0, none⟩), stepV 8 (i : Int) (j : Int) k most all] w fun e w' => e = .returned (ansV b 0 (.slice none 0 0)) ∧ Sta w' a s c es ∧ Fr (foot a s c es) (foot a s c es) w w' := by
  have HTW := Lib.hid (two8_any f X Y b hmk T hT hm hcf)
  unfold stepV at HTW
  unfold stepV ansV
  have hmf : ∀ (fn : Fn) (first cap : Array Value) (w : World), (Instr.makeFunc fn first cap).run Tryz.prog w = .ok (.func fn first cap) w := fun _ _ _ _ => rfl
  have H := Lib.hid h
  have HI := Lib.hid hi
  have HJ := Lib.hid hj
  have HT := Lib.hid hT
  clear h hi hj hm hcf hmk hT
  go_enter_defers Tryz.func22, Tryz.ntmps22
  go_wp2_with fail
  have hbg := began w #[.int .i64 8, .int .i64 (i : Int), .int .i64 (j : Int), .int .u64 (k : Int), .int .i64 most, .bool all]
  obtain ⟨w0, hw0⟩ : ∃ w0, (w.alloc (Obj.cells #[.int .i64 8, .int .i64 (i : Int), .int .i64 (j : Int), .int .u64 (k : Int), .int .i64 most, .bool all] 33)).alloc (.cells #[.bool false, .int .u64 0, .slice none 0 0, .bool false] 44) = w0 := ⟨_, rfl⟩
  rw [hw0] at hbg ⊢
  obtain ⟨q, hq⟩ : ∃ q, w.heap.size + 1 = q := ⟨_, rfl⟩
  obtain ⟨b0, hb⟩ : ∃ b0, w.heap.size = b0 := ⟨_, rfl⟩
  rw [hq] at hbg ⊢
  rw [hb] at hbg ⊢
  have HBG := Lib.hid hbg
  have hst0 := H.out.below hbg.below
  have HST0 := Lib.hid hst0
  have x0 : w0.cell? ⟨b0, 0, none⟩ = some (.int .i64 8) := hbg.box.cell 0 rfl
  have x1 : w0.cell? ⟨b0, 1, none⟩ = some (.int .i64 (i : Int)) := hbg.box.cell 1 rfl
  have x2 : w0.cell? ⟨b0, 2, none⟩ = some (.int .i64 (j : Int)) := hbg.box.cell 2 rfl
  have x3 : w0.cell? ⟨b0, 3, none⟩ = some (.int .u64 (k : Int)) := hbg.box.cell 3 rfl
  have x4 : w0.cell? ⟨b0, 4, none⟩ = some (.int .i64 most) := hbg.box.cell 4 rfl
  have x5 : w0.cell? ⟨b0, 5, none⟩ = some (.bool all) := hbg.box.cell 5 rfl
  have hat := arat_any a s c es i _ w0 hst0 HI.out hn
  have HAT := Lib.hid hat
  have hx : ArrAt w0 p F X := hst0.at_ _ (List.mem_of_getElem? HI.out)
  have hcc := HTW.out a s c es (i : Int) j p q1 F G k most all w0 q (.int .u64 ((0 : Nat) : Int)) (.slice none 0 0) (.bool false) hbg.ans hst0 hn hx HJ.out
  have HC := Lib.hid hcc
  clear hw0 hq hb hbg hst0 hat hcc hx
  refine HAT.out.mono ?_
  rintro e w' ⟨rfl, rfl⟩
  simp only [HT.out]
  go_wp2_with fail
  refine HC.out.mono ?_
  rintro e w1 ⟨rfl, hA1, hf1⟩
  have hqn : q ∉ foot a s c es := fun e => by
    have h1 := HBG.out.hq
    have := H.out.lt q e; omega
  have k0 : w1.cell? ⟨q, 0, none⟩ = some (.bool b) := hA1.cell 0 rfl
  have k1 : w1.cell? ⟨q, 1, none⟩ = some (.int .u64 ((0 : Nat) : Int)) := hA1.cell 1 rfl
  have k2 : w1.cell? ⟨q, 2, none⟩ = some (.slice none 0 0) := hA1.cell 2 rfl
  have k3 : w1.cell? ⟨q, 3, none⟩ = some (.bool false) := hA1.cell 3 rfl
  have f0 := hA1.free 0
  have f1 := hA1.free 1
  have f2 := hA1.free 2
  have f3 := hA1.free 3
  have HA1 := Lib.hid hA1
  have HF1 := Lib.hid hf1
  have HQN := Lib.hid hqn
  clear hf1 hA1 hqn
  go_wp2_with fail
  refine step_end (q := q) (by rfl) (ans_again HA1.out) ⟨rfl, HST0.out.done (HF1.out.trans (fr_again w1 q _ _ _ _)) HQN.out, step_fr HBG.out (Fr.refl _ w0) H.out.lt (HF1.out.trans (fr_again w1 q _ _ _ _))⟩

theorem does8_two (f : FuncId) (X Y : Arr) (b : Bool) (hmk : Asks f X Y b) (T : TypeId) (hT : tyOf X = T) (hm : ∀ (v : Value) (w : World), (method 267 T v "Intersects").run Tryz.prog w = .ok (f, v) w) (hcf : ∀ (args : Array Value) (w : World), (callFunc f args).run Tryz.prog w = .ok (.enter f args) w) (σ : List Arr) (t : Stp) (h : t.op = 8) (hi : σ[t.on]? = some X) (hj : σ[t.by_]? = some Y) : Does σ t σ ⟨b, 0, []⟩ := by
  intro w a s c es hs hσ hl
  rw [h]
  obtain ⟨p, F, he⟩ := ent_of hσ hi
  obtain ⟨q1, G, hg⟩ := ent_of hσ hj
  exact (step8_two f X Y b hmk T hT hm hcf a s c es t.on t.by_ p q1 F G t.k _ _ w hs hl he hg).mono fun e w' ⟨he, h1, h2⟩ => Left.plain he hσ h1 h2

end Go.Proofs.YtgifbdjifmoafaaGreat
