/- Walks of impl's step at operations on a dense array, and what they do (printed by gen_ba_destep.py). -/
import Derived.Test.YtjnefgmoobbniaaGreatBaDe4
namespace Go.Proofs.YtjnefgmoobbniaaGreat
set_option linter.unusedVariables false
open Go.RowKit Bam

theorem meth_bitArray_SetBit (x : Value) (w : World) : (method 250 80 x "SetBit").run Tryz.prog w = .ok (66, x) w := by kernel_rfl
theorem meth_bitArray_Count (x : Value) (w : World) : (method 250 80 x "Count").run Tryz.prog w = .ok (57, x) w := by kernel_rfl
theorem meth_bitArray_ToNums (x : Value) (w : World) : (method 250 80 x "ToNums").run Tryz.prog w = .ok (67, x) w := by kernel_rfl
theorem meth_bitArray_IsEmpty (x : Value) (w : World) : (method 250 80 x "IsEmpty").run Tryz.prog w = .ok (62, x) w := by kernel_rfl

theorem newba_any (g n m : Nat) (w : World) (hm : m = (n + 63) / 64) (hn : n ≤ 10000000) (hg : w.cell? ⟨g, 0, none⟩ = some (.bool false)) :
    Calls Tryz.prog 30 #[.int .u64 (n : Int), .slice (some ⟨g, 0, none⟩) 1 1] w fun e w' => ∃ (r : Nat) (F : List Nat), e = .returned (.iface 80 (.pointer (some ⟨r, 0, none⟩))) ∧ DeW w' r F (List.replicate m 0) ∧ (∀ x ∈ F, w.heap.size ≤ x) ∧ Below w.heap.size w w' := by
  have hne := newde_one g n m w hm hn hg
  have HNE := Lib.hid hne
  clear hne hm hn hg
  go_enter Tryz.func30, Tryz.ntmps30
  go_wp2_with fail
  refine HNE.out.mono ?_
  rintro e w' ⟨r, F, rfl, h1, h2, h3⟩
  have H1 := Lib.hid h1
  have H2 := Lib.hid h2
  have H3 := Lib.hid h3
  clear h1 h2 h3
  go_wp2_with fail
  go_ret
  exact ⟨r, F, rfl, H1.out, H2.out, H3.out⟩

set_option maxRecDepth 100000 in
set_option maxHeartbeats 1000000 in
theorem step1_any (a : Nat) (s : Option Addr) (c : Nat) (es : List Ent) (on by_ : Int) (k m : Nat) (most : Int) (w : World) (h : Sta w a s c es) (hn : es.length ≤ 1000) (hk : k ≤ 1000000) (hm : m = (k + 63) / 64) :
    Calls Tryz.prog 27 #[.pointer (some ⟨a, 0, none⟩), stepV 1 on by_ k most false] w fun e w' => e = .returned (ansV false 0 (.slice none 0 0)) ∧
      ∃ s' c' p F, Sta w' a s' c' (es ++ [Ent.mk p F (deA (List.replicate m 0))]) ∧ Fr (foot a s c es) (foot a s' c' (es ++ [Ent.mk p F (deA (List.replicate m 0))])) w w' := by
  unfold stepV ansV
  have hmf : ∀ (fn : Fn) (first cap : Array Value) (w : World), (Instr.makeFunc fn first cap).run Tryz.prog w = .ok (.func fn first cap) w := fun _ _ _ _ => rfl
  have H := Lib.hid h
  have HM := Lib.hid hm
  clear h hm
  go_enter_defers Tryz.func27, Tryz.ntmps27
  go_wp2_with fail
  have hbg := began w #[.int .i64 1, .int .i64 on, .int .i64 by_, .int .u64 (k : Int), .int .i64 most, .bool false]
  obtain ⟨w0, hw0⟩ : ∃ w0, (w.alloc (Obj.cells #[.int .i64 1, .int .i64 on, .int .i64 by_, .int .u64 (k : Int), .int .i64 most, .bool false] 40)).alloc (.cells #[.bool false, .int .u64 0, .slice none 0 0, .bool false] 44) = w0 := ⟨_, rfl⟩
  rw [hw0] at hbg ⊢
  obtain ⟨q, hq⟩ : ∃ q, w.heap.size + 1 = q := ⟨_, rfl⟩
  obtain ⟨b, hb⟩ : ∃ b, w.heap.size = b := ⟨_, rfl⟩
  have h2 : w.heap.size + 2 = w0.heap.size := hbg.size.symm
  rw [hq] at hbg ⊢
  rw [hb] at hbg ⊢
  have HBG := Lib.hid hbg
  have hst0 := H.out.below hbg.below
  have HST0 := Lib.hid hst0
  have hbA : Below w0.heap.size w0 (w0.alloc (.cells #[.bool false] 4)) := (Below.refl _ _).alloc (Nat.le_refl _) _
  have hnb := newba_any w0.heap.size k m (w0.alloc (.cells #[.bool false] 4)) HM.out (by omega) ((Blk.new w0 _ _).cell 0 rfl)
  have HBA := Lib.hid hbA
  have HNB := Lib.hid hnb
  have hqe : w0.heap.size = q + 1 := by omega
  have hsp1 : q + 1 = w0.heap.size := hqe.symm
  rw [hsp1]
  have HQE := Lib.hid hqe
  clear hw0 hq hb h2 hbg hst0 hbA hnb hqe hsp1
  refine HNB.out.mono ?_
  rintro e w1 ⟨r, F, rfl, hr, hfr, hb1⟩
  have hb1' : Below w0.heap.size w0 w1 := HBA.out.trans (hb1.mono HBA.out.size)
  have hfr' : ∀ x ∈ F, w0.heap.size ≤ x := fun x hx => Nat.le_trans HBA.out.size (hfr x hx)
  have hm := made_any a s c es r F (deA (List.replicate m 0)) w1 (HST0.out.below hb1') hr (fun k hk hk2 => by have h1 := hfr' k hk; have h2 := HST0.out.lt k hk2; omega) hn
  obtain ⟨TZ, hTZ⟩ : ∃ TZ, tyOf (deA (List.replicate m 0)) = TZ := ⟨_, rfl⟩
  have hTZ2 : 80 = TZ := hTZ
  rw [hTZ] at hm
  rw [hTZ2]
  have HM1 := Lib.hid hm
  have HB1 := Lib.hid hb1'
  have HFR := Lib.hid hfr'
  clear hm hb1 hb1' hfr hfr' hr hTZ hTZ2
  go_wp2_with fail
  refine HM1.out.mono ?_
  rintro e w2 ⟨rfl, s', c', hs2, hf2⟩
  have hf02 : Fr (foot a s c es) (foot a s' c' (es ++ [Ent.mk r F (deA (List.replicate m 0))])) w0 w2 := by
    refine ⟨hf2.os.trans HB1.out.os, hf2.tape.trans HB1.out.tape, hf2.output.trans HB1.out.output, Nat.le_trans HB1.out.size hf2.size, fun k hk hn => ?_, fun k hk => ?_⟩
    · refine (hf2.block k (Nat.lt_of_lt_of_le hk HB1.out.size) (fun e => ?_)).trans (HB1.out.block k hk)
      rcases List.mem_append.1 e with e | e
      · exact hn e
      · have := HFR.out k e; omega
    · rcases hf2.next k hk with e | e
      · rcases List.mem_append.1 e with e | e
        · exact .inl e
        · exact .inr (HFR.out k e)
      · exact .inr (Nat.le_trans HB1.out.size e)
  have hlt := H.out.lt
  obtain ⟨hbx, hA2⟩ := HBG.out.keep hf02 hlt
  have hqn : q ∉ foot a s' c' (es ++ [Ent.mk r F (deA (List.replicate m 0))]) := fun e => by
    have h1 := HBG.out.hq
    have h2 := HBG.out.size
    rcases hf02.next q e with e | e
    · have := hlt q e; omega
    · omega
  have k0 : w2.cell? ⟨q, 0, none⟩ = some (.bool false) := hA2.cell 0 rfl
  have k1 : w2.cell? ⟨q, 1, none⟩ = some (.int .u64 ((0 : Nat) : Int)) := hA2.cell 1 rfl
  have k2 : w2.cell? ⟨q, 2, none⟩ = some (.slice none 0 0) := hA2.cell 2 rfl
  have k3 : w2.cell? ⟨q, 3, none⟩ = some (.bool false) := hA2.cell 3 rfl
  have f0 := hA2.free 0
  have f1 := hA2.free 1
  have f2 := hA2.free 2
  have f3 := hA2.free 3
  have HA2 := Lib.hid hA2
  have HS2 := Lib.hid hs2
  have HF2 := Lib.hid hf02
  have HQN := Lib.hid hqn
  clear hs2 hf2 hA2 hf02 hlt hbx hqn
  go_wp2_with fail
  refine step_end (q := q) (by rfl) (ans_again HA2.out) ⟨rfl, s', c', r, F, HS2.out.done (fr_again w2 q _ _ _ _) HQN.out, step_fr HBG.out HF2.out H.out.lt (fr_again w2 q _ _ _ _)⟩

set_option maxRecDepth 100000 in
set_option maxHeartbeats 1000000 in
theorem step3_de (a : Nat) (s : Option Addr) (c : Nat) (es : List Ent) (i p : Nat) (F W : List Nat) (lo hi : Nat) (any : Bool) (hlo : loW W = lo) (hhi : hiW W = hi) (hany : anyW W = any) (by_ : Int) (k : Nat) (most : Int) (all : Bool) (w : World) (h : Sta w a s c es) (hn : es.length ≤ 1000) (hi2 : es[i]? = some ⟨p, F, .de W lo hi any⟩) (hok : W64 W) (hl : W.length ≤ 9000) (hk : k < 64 * W.length) :
    Calls Tryz.prog 27 #[.pointer (some ⟨a, 0, none⟩), stepV 3 (i : Int) by_ k most all] w fun e w' => e = .returned (ansV true 0 (.slice none 0 0)) ∧ Sta w' a s c (es.set i ⟨p, F, deA (dSet W k)⟩) ∧ Fr (foot a s c es) (foot a s c (es.set i ⟨p, F, deA (dSet W k)⟩)) w w' := by
  unfold stepV ansV
  have hmf : ∀ (fn : Fn) (first cap : Array Value) (w : World), (Instr.makeFunc fn first cap).run Tryz.prog w = .ok (.func fn first cap) w := fun _ _ _ _ => rfl
  have hme := meth_bitArray_SetBit (.pointer (some ⟨p, 0, none⟩))
  have H := Lib.hid h
  have HI := Lib.hid hi2
  have HLO := Lib.hid hlo
  have HHI := Lib.hid hhi
  have HANY := Lib.hid hany
  clear h hi2 hlo hhi hany
  go_enter_defers Tryz.func27, Tryz.ntmps27
  go_wp2_with fail
  have hbg := began w #[.int .i64 3, .int .i64 (i : Int), .int .i64 by_, .int .u64 (k : Int), .int .i64 most, .bool all]
  obtain ⟨w0, hw0⟩ : ∃ w0, (w.alloc (Obj.cells #[.int .i64 3, .int .i64 (i : Int), .int .i64 by_, .int .u64 (k : Int), .int .i64 most, .bool all] 40)).alloc (.cells #[.bool false, .int .u64 0, .slice none 0 0, .bool false] 44) = w0 := ⟨_, rfl⟩
  rw [hw0] at hbg ⊢
  obtain ⟨q, hq⟩ : ∃ q, w.heap.size + 1 = q := ⟨_, rfl⟩
  obtain ⟨b, hb⟩ : ∃ b, w.heap.size = b := ⟨_, rfl⟩
  rw [hq] at hbg ⊢
  rw [hb] at hbg ⊢
  have HBG := Lib.hid hbg
  have hst0 := H.out.below hbg.below
  have HST0 := Lib.hid hst0
  have x0 : w0.cell? ⟨b, 0, none⟩ = some (.int .i64 3) := hbg.box.cell 0 rfl
  have x3 : w0.cell? ⟨b, 3, none⟩ = some (.int .u64 (k : Int)) := hbg.box.cell 3 rfl
  have hat := arat_any a s c es i _ w0 hst0 HI.out hn
  have HAT := Lib.hid hat
  have hsp : DeAt w0 p F W lo hi any := hst0.at_ _ (List.mem_of_getElem? HI.out)
  have hcc := setbit_de p F W k w0 (by unfold DeW; rw [HLO.out, HHI.out, HANY.out]; exact hsp) hok (by omega) hk
  have HC := Lib.hid hcc
  clear hw0 hq hb hbg hst0 hat hsp hcc
  refine HAT.out.mono ?_
  rintro e w' ⟨rfl, rfl⟩
  go_wp2_with fail
  refine HC.out.mono ?_
  rintro e w1 ⟨rfl, hsF, hfF⟩
  obtain ⟨hs1, hf1⟩ := HST0.out.turn (x' := deA (dSet W k)) HI.out hfF hsF rfl
  clear hfF hsF
  have hlt := H.out.lt
  obtain ⟨hbx, hA1⟩ := HBG.out.keep hf1 hlt
  have hqn : q ∉ foot a s c (es.set i ⟨p, F, deA (dSet W k)⟩) := fun e => by
    have h1 := HBG.out.hq
    have h2 := HBG.out.size
    rcases hf1.next q e with e | e
    · have := hlt q e; omega
    · omega
  have k0 : w1.cell? ⟨q, 0, none⟩ = some (.bool false) := hA1.cell 0 rfl
  have k1 : w1.cell? ⟨q, 1, none⟩ = some (.int .u64 ((0 : Nat) : Int)) := hA1.cell 1 rfl
  have k2 : w1.cell? ⟨q, 2, none⟩ = some (.slice none 0 0) := hA1.cell 2 rfl
  have k3 : w1.cell? ⟨q, 3, none⟩ = some (.bool false) := hA1.cell 3 rfl
  have f0 := hA1.free 0
  have f1 := hA1.free 1
  have f2 := hA1.free 2
  have f3 := hA1.free 3
  have HA1 := Lib.hid hA1
  have HS1 := Lib.hid hs1
  have HF1 := Lib.hid hf1
  have HQN := Lib.hid hqn
  clear hs1 hf1 hA1 hlt hbx hqn
  go_wp2_with fail
  have hE : Blk _ q 44 #[.bool true, .int .u64 ((0 : Nat) : Int), .slice none 0 0, .bool false] := (HA1.out.set 0 (.bool true))
  refine step_end (q := q) (by rfl) (ans_again hE) ⟨rfl, HS1.out.done ((fr_store_other w1 q 0 _).trans (fr_again _ q _ _ _ _)) HQN.out, step_fr HBG.out HF1.out H.out.lt ((fr_store_other w1 q 0 _).trans (fr_again _ q _ _ _ _))⟩

set_option maxRecDepth 100000 in
set_option maxHeartbeats 1000000 in
theorem step10_de (a : Nat) (s : Option Addr) (c : Nat) (es : List Ent) (i p : Nat) (F W : List Nat) (lo hi : Nat) (any : Bool) (hlo : loW W = lo) (hhi : hiW W = hi) (hany : anyW W = any) (by_ : Int) (k : Nat) (most : Int) (all : Bool) (w : World) (h : Sta w a s c es) (hn : es.length ≤ 1000) (hi2 : es[i]? = some ⟨p, F, .de W lo hi any⟩) (hok : W64 W) (hl : W.length ≤ 9000) (N : Nat) (hN : (dnums W).length = N) (hNb : N ≤ 1000000) :
    Calls Tryz.prog 27 #[.pointer (some ⟨a, 0, none⟩), stepV 10 (i : Int) by_ k most all] w fun e w' => e = .returned (ansV false N (.slice none 0 0)) ∧ Sta w' a s c es ∧ Fr (foot a s c es) (foot a s c es) w w' := by
  unfold stepV ansV
  have hmf : ∀ (fn : Fn) (first cap : Array Value) (w : World), (Instr.makeFunc fn first cap).run Tryz.prog w = .ok (.func fn first cap) w := fun _ _ _ _ => rfl
  have hme := meth_bitArray_Count (.pointer (some ⟨p, 0, none⟩))
  have H := Lib.hid h
  have HI := Lib.hid hi2
  have HLO := Lib.hid hlo
  have HHI := Lib.hid hhi
  have HANY := Lib.hid hany
  clear h hi2 hlo hhi hany
  go_enter_defers Tryz.func27, Tryz.ntmps27
  go_wp2_with fail
  have hbg := began w #[.int .i64 10, .int .i64 (i : Int), .int .i64 by_, .int .u64 (k : Int), .int .i64 most, .bool all]
  obtain ⟨w0, hw0⟩ : ∃ w0, (w.alloc (Obj.cells #[.int .i64 10, .int .i64 (i : Int), .int .i64 by_, .int .u64 (k : Int), .int .i64 most, .bool all] 40)).alloc (.cells #[.bool false, .int .u64 0, .slice none 0 0, .bool false] 44) = w0 := ⟨_, rfl⟩
  rw [hw0] at hbg ⊢
  obtain ⟨q, hq⟩ : ∃ q, w.heap.size + 1 = q := ⟨_, rfl⟩
  obtain ⟨b, hb⟩ : ∃ b, w.heap.size = b := ⟨_, rfl⟩
  rw [hq] at hbg ⊢
  rw [hb] at hbg ⊢
  have HBG := Lib.hid hbg
  have hst0 := H.out.below hbg.below
  have HST0 := Lib.hid hst0
  have x0 : w0.cell? ⟨b, 0, none⟩ = some (.int .i64 10) := hbg.box.cell 0 rfl
  have x3 : w0.cell? ⟨b, 3, none⟩ = some (.int .u64 (k : Int)) := hbg.box.cell 3 rfl
  have hat := arat_any a s c es i _ w0 hst0 HI.out hn
  have HAT := Lib.hid hat
  have hsp : DeAt w0 p F W lo hi any := hst0.at_ _ (List.mem_of_getElem? HI.out)
  have hcc := (show Calls Tryz.prog 57 #[.pointer (some ⟨p, 0, none⟩)] w0 (fun e w' => e = .returned (.int .i64 (N : Int)) ∧ w0 = w') from hN ▸ count_de p F W _ _ _ w0 hsp hok (by omega))
  have HC := Lib.hid hcc
  clear hw0 hq hb hbg hst0 hat hsp hcc
  refine HAT.out.mono ?_
  rintro e w' ⟨rfl, rfl⟩
  go_wp2_with fail
  refine HC.out.mono ?_
  rintro e w1 ⟨rfl, hsame⟩
  have hbw : Below w0.heap.size w0 w1 := hsame ▸ Below.refl _ _
  clear hsame
  have hs1 := HST0.out.below hbw
  have hf1 : Fr (foot a s c es) (foot a s c es) w0 w1 := Fr.of_below _ hbw
  have hlt := H.out.lt
  obtain ⟨hbx, hA1⟩ := HBG.out.keep hf1 hlt
  have hqn : q ∉ foot a s c es := fun e => by
    have h1 := HBG.out.hq
    have h2 := HBG.out.size
    rcases hf1.next q e with e | e
    · have := hlt q e; omega
    · omega
  have k0 : w1.cell? ⟨q, 0, none⟩ = some (.bool false) := hA1.cell 0 rfl
  have k1 : w1.cell? ⟨q, 1, none⟩ = some (.int .u64 ((0 : Nat) : Int)) := hA1.cell 1 rfl
  have k2 : w1.cell? ⟨q, 2, none⟩ = some (.slice none 0 0) := hA1.cell 2 rfl
  have k3 : w1.cell? ⟨q, 3, none⟩ = some (.bool false) := hA1.cell 3 rfl
  have f0 := hA1.free 0
  have f1 := hA1.free 1
  have f2 := hA1.free 2
  have f3 := hA1.free 3
  have HA1 := Lib.hid hA1
  have HS1 := Lib.hid hs1
  have HF1 := Lib.hid hf1
  have HQN := Lib.hid hqn
  clear hs1 hf1 hA1 hlt hbx hqn
  go_wp2_with fail
  have hE : Blk _ q 44 #[.bool false, .int .u64 ((N : Nat) : Int), .slice none 0 0, .bool false] := (HA1.out.set 1 (.int .u64 (N : Int)))
  refine step_end (q := q) (by rfl) (ans_again hE) ⟨rfl, HS1.out.done ((fr_store_other w1 q 1 _).trans (fr_again _ q _ _ _ _)) HQN.out, step_fr HBG.out HF1.out H.out.lt ((fr_store_other w1 q 1 _).trans (fr_again _ q _ _ _ _))⟩

set_option maxRecDepth 100000 in
set_option maxHeartbeats 1000000 in
theorem step15_de (a : Nat) (s : Option Addr) (c : Nat) (es : List Ent) (i p : Nat) (F W : List Nat) (lo hi : Nat) (any : Bool) (hlo : loW W = lo) (hhi : hiW W = hi) (hany : anyW W = any) (by_ : Int) (k : Nat) (most : Int) (all : Bool) (w : World) (h : Sta w a s c es) (hn : es.length ≤ 1000) (hi2 : es[i]? = some ⟨p, F, .de W lo hi any⟩) (y : Bool) (hy : (!any) = y) :
    Calls Tryz.prog 27 #[.pointer (some ⟨a, 0, none⟩), stepV 15 (i : Int) by_ k most all] w fun e w' => e = .returned (ansV y 0 (.slice none 0 0)) ∧ Sta w' a s c es ∧ Fr (foot a s c es) (foot a s c es) w w' := by
  unfold stepV ansV
  have hmf : ∀ (fn : Fn) (first cap : Array Value) (w : World), (Instr.makeFunc fn first cap).run Tryz.prog w = .ok (.func fn first cap) w := fun _ _ _ _ => rfl
  have hme := meth_bitArray_IsEmpty (.pointer (some ⟨p, 0, none⟩))
  have H := Lib.hid h
  have HI := Lib.hid hi2
  have HLO := Lib.hid hlo
  have HHI := Lib.hid hhi
  have HANY := Lib.hid hany
  clear h hi2 hlo hhi hany
  go_enter_defers Tryz.func27, Tryz.ntmps27
  go_wp2_with fail
  have hbg := began w #[.int .i64 15, .int .i64 (i : Int), .int .i64 by_, .int .u64 (k : Int), .int .i64 most, .bool all]
  obtain ⟨w0, hw0⟩ : ∃ w0, (w.alloc (Obj.cells #[.int .i64 15, .int .i64 (i : Int), .int .i64 by_, .int .u64 (k : Int), .int .i64 most, .bool all] 40)).alloc (.cells #[.bool false, .int .u64 0, .slice none 0 0, .bool false] 44) = w0 := ⟨_, rfl⟩
  rw [hw0] at hbg ⊢
  obtain ⟨q, hq⟩ : ∃ q, w.heap.size + 1 = q := ⟨_, rfl⟩
  obtain ⟨b, hb⟩ : ∃ b, w.heap.size = b := ⟨_, rfl⟩
  rw [hq] at hbg ⊢
  rw [hb] at hbg ⊢
  have HBG := Lib.hid hbg
  have hst0 := H.out.below hbg.below
  have HST0 := Lib.hid hst0
  have x0 : w0.cell? ⟨b, 0, none⟩ = some (.int .i64 15) := hbg.box.cell 0 rfl
  have x3 : w0.cell? ⟨b, 3, none⟩ = some (.int .u64 (k : Int)) := hbg.box.cell 3 rfl
  have hat := arat_any a s c es i _ w0 hst0 HI.out hn
  have HAT := Lib.hid hat
  have hsp : DeAt w0 p F W lo hi any := hst0.at_ _ (List.mem_of_getElem? HI.out)
  have hcc := (show Calls Tryz.prog 62 #[.pointer (some ⟨p, 0, none⟩)] w0 (fun e w' => e = .returned (.bool y) ∧ w0 = w') from hy ▸ isempty_de p F W _ _ _ w0 hsp)
  have HC := Lib.hid hcc
  clear hw0 hq hb hbg hst0 hat hsp hcc
  refine HAT.out.mono ?_
  rintro e w' ⟨rfl, rfl⟩
  go_wp2_with fail
  refine HC.out.mono ?_
  rintro e w1 ⟨rfl, hsame⟩
  have hbw : Below w0.heap.size w0 w1 := hsame ▸ Below.refl _ _
  clear hsame
  have hs1 := HST0.out.below hbw
  have hf1 : Fr (foot a s c es) (foot a s c es) w0 w1 := Fr.of_below _ hbw
  have hlt := H.out.lt
  obtain ⟨hbx, hA1⟩ := HBG.out.keep hf1 hlt
  have hqn : q ∉ foot a s c es := fun e => by
    have h1 := HBG.out.hq
    have h2 := HBG.out.size
    rcases hf1.next q e with e | e
    · have := hlt q e; omega
    · omega
  have k0 : w1.cell? ⟨q, 0, none⟩ = some (.bool false) := hA1.cell 0 rfl
  have k1 : w1.cell? ⟨q, 1, none⟩ = some (.int .u64 ((0 : Nat) : Int)) := hA1.cell 1 rfl
  have k2 : w1.cell? ⟨q, 2, none⟩ = some (.slice none 0 0) := hA1.cell 2 rfl
  have k3 : w1.cell? ⟨q, 3, none⟩ = some (.bool false) := hA1.cell 3 rfl
  have f0 := hA1.free 0
  have f1 := hA1.free 1
  have f2 := hA1.free 2
  have f3 := hA1.free 3
  have HA1 := Lib.hid hA1
  have HS1 := Lib.hid hs1
  have HF1 := Lib.hid hf1
  have HQN := Lib.hid hqn
  clear hs1 hf1 hA1 hlt hbx hqn
  go_wp2_with fail
  have hE : Blk _ q 44 #[.bool y, .int .u64 ((0 : Nat) : Int), .slice none 0 0, .bool false] := (HA1.out.set 0 (.bool y))
  refine step_end (q := q) (by rfl) (ans_again hE) ⟨rfl, HS1.out.done ((fr_store_other w1 q 0 _).trans (fr_again _ q _ _ _ _)) HQN.out, step_fr HBG.out HF1.out H.out.lt ((fr_store_other w1 q 0 _).trans (fr_again _ q _ _ _ _))⟩

set_option maxRecDepth 100000 in
set_option maxHeartbeats 1000000 in
theorem step14_de (a : Nat) (s : Option Addr) (c : Nat) (es : List Ent) (i p : Nat) (F W : List Nat) (lo hi : Nat) (any : Bool) (hlo : loW W = lo) (hhi : hiW W = hi) (hany : anyW W = any) (by_ : Int) (k : Nat) (most : Int) (all : Bool) (w : World) (h : Sta w a s c es) (hn : es.length ≤ 1000) (hi2 : es[i]? = some ⟨p, F, .de W lo hi any⟩) (hok : W64 W) (hl : W.length ≤ 9000) :
    Calls Tryz.prog 27 #[.pointer (some ⟨a, 0, none⟩), stepV 14 (i : Int) by_ k most all] w fun e w' => ∃ v m cc, e = .returned (ansV false 0 (.slice v m cc)) ∧ w'.ownsRow w.heap.size 34 1 (.slice v m cc) m (u64s (dnums W)) ∧ (∀ k ∈ obl (.slice v m cc), k ∉ foot a s c es) ∧ Sta w' a s c es ∧ Fr (foot a s c es) (foot a s c es) w w' := by
  unfold stepV ansV
  have hmf : ∀ (fn : Fn) (first cap : Array Value) (w : World), (Instr.makeFunc fn first cap).run Tryz.prog w = .ok (.func fn first cap) w := fun _ _ _ _ => rfl
  have hme := meth_bitArray_ToNums (.pointer (some ⟨p, 0, none⟩))
  have H := Lib.hid h
  have HI := Lib.hid hi2
  have HLO := Lib.hid hlo
  have HHI := Lib.hid hhi
  have HANY := Lib.hid hany
  clear h hi2 hlo hhi hany
  go_enter_defers Tryz.func27, Tryz.ntmps27
  go_wp2_with fail
  have hbg := began w #[.int .i64 14, .int .i64 (i : Int), .int .i64 by_, .int .u64 (k : Int), .int .i64 most, .bool all]
  obtain ⟨w0, hw0⟩ : ∃ w0, (w.alloc (Obj.cells #[.int .i64 14, .int .i64 (i : Int), .int .i64 by_, .int .u64 (k : Int), .int .i64 most, .bool all] 40)).alloc (.cells #[.bool false, .int .u64 0, .slice none 0 0, .bool false] 44) = w0 := ⟨_, rfl⟩
  rw [hw0] at hbg ⊢
  obtain ⟨q, hq⟩ : ∃ q, w.heap.size + 1 = q := ⟨_, rfl⟩
  obtain ⟨b, hb⟩ : ∃ b, w.heap.size = b := ⟨_, rfl⟩
  rw [hq] at hbg ⊢
  rw [hb] at hbg ⊢
  have HBG := Lib.hid hbg
  have hst0 := H.out.below hbg.below
  have HST0 := Lib.hid hst0
  have x0 : w0.cell? ⟨b, 0, none⟩ = some (.int .i64 14) := hbg.box.cell 0 rfl
  have x3 : w0.cell? ⟨b, 3, none⟩ = some (.int .u64 (k : Int)) := hbg.box.cell 3 rfl
  have hat := arat_any a s c es i _ w0 hst0 HI.out hn
  have HAT := Lib.hid hat
  have hsp : DeAt w0 p F W lo hi any := hst0.at_ _ (List.mem_of_getElem? HI.out)
  have hcc := nums_de p F W w0 (by unfold DeW; rw [HLO.out, HHI.out, HANY.out]; exact hsp) hok (by omega)
  have HC := Lib.hid hcc
  clear hw0 hq hb hbg hst0 hat hsp hcc
  refine HAT.out.mono ?_
  rintro e w' ⟨rfl, rfl⟩
  go_wp2_with fail
  refine HC.out.mono ?_
  rintro e w1 ⟨v, m, cc, rfl, hown, hbw⟩
  have hs1 := HST0.out.below hbw
  have hf1 : Fr (foot a s c es) (foot a s c es) w0 w1 := Fr.of_below _ hbw
  have hqv : q ∉ obl (.slice v m cc) := fun e => by
    have h1 := HBG.out.hq
    have h2 := HBG.out.size
    have := (own_lt hown q e).2
    omega
  have HQV := Lib.hid hqv
  have HOW := Lib.hid hown
  clear hqv hown
  have hlt := H.out.lt
  obtain ⟨hbx, hA1⟩ := HBG.out.keep hf1 hlt
  have hqn : q ∉ foot a s c es := fun e => by
    have h1 := HBG.out.hq
    have h2 := HBG.out.size
    rcases hf1.next q e with e | e
    · have := hlt q e; omega
    · omega
  have k0 : w1.cell? ⟨q, 0, none⟩ = some (.bool false) := hA1.cell 0 rfl
  have k1 : w1.cell? ⟨q, 1, none⟩ = some (.int .u64 ((0 : Nat) : Int)) := hA1.cell 1 rfl
  have k2 : w1.cell? ⟨q, 2, none⟩ = some (.slice none 0 0) := hA1.cell 2 rfl
  have k3 : w1.cell? ⟨q, 3, none⟩ = some (.bool false) := hA1.cell 3 rfl
  have f0 := hA1.free 0
  have f1 := hA1.free 1
  have f2 := hA1.free 2
  have f3 := hA1.free 3
  have HA1 := Lib.hid hA1
  have HS1 := Lib.hid hs1
  have HF1 := Lib.hid hf1
  have HQN := Lib.hid hqn
  clear hs1 hf1 hA1 hlt hbx hqn
  go_wp2_with fail
  have hE : Blk _ q 44 #[.bool false, .int .u64 ((0 : Nat) : Int), .slice v m cc, .bool false] := (HA1.out.set 2 (.slice v m cc))
  refine step_end (q := q) (by rfl) (ans_again hE) ⟨v, m, cc, rfl, own_base (Fr.own ((fr_store_other w1 q 2 _).trans (fr_again _ q _ _ _ _)) HOW.out (fun k hk hk2 => HQV.out (by rw [List.mem_singleton] at hk2; exact hk2 ▸ hk))) (by have := HBG.out.size; omega), (fun k hk hk2 => by have h1 := H.out.lt k hk2; have h2 := (own_lt HOW.out k hk).2; have h3 := HBG.out.size; omega), HS1.out.done ((fr_store_other w1 q 2 _).trans (fr_again _ q _ _ _ _)) HQN.out, step_fr HBG.out HF1.out H.out.lt ((fr_store_other w1 q 2 _).trans (fr_again _ q _ _ _ _))⟩


/-- an array whose bits are S, and that the walks serve -/
def Good (x : Arr) (S : List Nat) : Prop := (∃ ps, x = .sp ps ∧ SOk ps ∧ nums ps = S) ∨ ∃ W, x = deA W ∧ W64 W ∧ W.length ≤ 9000 ∧ dnums W = S
theorem Good.asc {x : Arr} {S : List Nat} (h : Good x S) : Asc S := by
  rcases h with ⟨ps, _, h1, h2⟩ | ⟨W, _, h1, _, h2⟩
  · rw [← h2]; exact asc_nums h1.ok
  · rw [← h2]; exact asc_dnums h1
theorem Good.len {x : Arr} {S : List Nat} (h : Good x S) : S.length ≤ 600000 := by
  rcases h with ⟨ps, _, h1, h2⟩ | ⟨W, _, h1, hl, h2⟩
  · rw [← h2]; have := cnt_le ps; have := h1.len; omega
  · rw [← h2]; have := dnums_len W; omega
theorem does_newde (σ : List Arr) (t : Stp) (h : t.op = 1) (ha : t.all = false) (hk : t.k ≤ 1000000) : Does σ t (σ ++ [deA (List.replicate ((t.k + 63) / 64) 0)]) ⟨false, 0, []⟩ := by
  intro w a s c es hs hσ hl
  rw [h, ha]
  refine (step1_any a s c es _ _ t.k _ _ w hs hl hk rfl).mono fun e w' ⟨he, s', c', p, F, h1, h2⟩ => ?_
  exact Left.plain he (by rw [List.map_append, hσ]; rfl) h1 h2
theorem does_setde (σ : List Arr) (t : Stp) (W : List Nat) (h : t.op = 3) (hi : σ[t.on]? = some (deA W)) (hp : W64 W) (hl : W.length ≤ 9000) (hk : t.k < 64 * W.length) : Does σ t (σ.set t.on (deA (dSet W t.k))) ⟨true, 0, []⟩ := by
  intro w a s c es hs hσ hle
  rw [h]
  obtain ⟨p, F, he⟩ := ent_of hσ hi
  refine (step3_de a s c es t.on p F W _ _ _ rfl rfl rfl _ t.k _ _ w hs hle he hp hl hk).mono fun e w' ⟨he, h1, h2⟩ => ?_
  exact Left.plain he (by rw [map_set_x, hσ]) h1 h2
theorem does_count_g (σ : List Arr) (t : Stp) (x : Arr) (S : List Nat) (h : t.op = 10) (hi : σ[t.on]? = some x) (hp : Good x S) : Does σ t σ ⟨false, S.length, []⟩ := by
  have hlen := hp.len
  rcases hp with ⟨ps, rfl, h1, rfl⟩ | ⟨W, rfl, h1, hl, rfl⟩
  · exact does_count σ t ps h hi h1
  · intro w a s c es hs hσ hle
    rw [h]
    obtain ⟨p, F, he⟩ := ent_of hσ hi
    exact (step10_de a s c es t.on p F W _ _ _ rfl rfl rfl _ t.k _ _ w hs hle he h1 hl _ rfl (by omega)).mono fun e w' ⟨he, h1, h2⟩ => Left.plain he hσ h1 h2
theorem does_empty_g (σ : List Arr) (t : Stp) (x : Arr) (S : List Nat) (h : t.op = 15) (hi : σ[t.on]? = some x) (hp : Good x S) : Does σ t σ ⟨decide (S.length = 0), 0, []⟩ := by
  rcases hp with ⟨rs, rfl, h3, rfl⟩ | ⟨W, rfl, h1, hl, rfl⟩
  · have he : decide (rs.length = 0) = decide ((nums rs).length = 0) := by
      rw [Bool.eq_iff_iff, decide_eq_true_iff, decide_eq_true_iff]
      constructor
      · intro h; rw [List.eq_nil_of_length_eq_zero h]; rfl
      · intro h; rw [nums_nil_of h3.ok h3.nz (List.eq_nil_of_length_eq_zero h)]; rfl
    rw [← he]
    exact does_empty σ t rs h hi h3
  · intro w a s c es hs hσ hle
    rw [h]
    obtain ⟨p, F, he⟩ := ent_of hσ hi
    have hy : (!(anyW W)) = decide ((dnums W).length = 0) := by
      unfold anyW
      rw [Bool.eq_iff_iff]
      simp
    exact (step15_de a s c es t.on p F W _ _ _ rfl rfl rfl _ t.k _ _ w hs hle he _ hy).mono fun e w' ⟨he, h1, h2⟩ => Left.plain he hσ h1 h2
theorem does_nums_g (σ : List Arr) (t : Stp) (x : Arr) (S : List Nat) (h : t.op = 14) (hi : σ[t.on]? = some x) (hp : Good x S) : Does σ t σ ⟨false, 0, S⟩ := by
  rcases hp with ⟨ps, rfl, h1, rfl⟩ | ⟨W, rfl, h1, hl, rfl⟩
  · exact does_nums σ t ps h hi h1
  · intro w a s c es hs hσ hle
    rw [h]
    obtain ⟨p, F, he⟩ := ent_of hσ hi
    exact (step14_de a s c es t.on p F W _ _ _ rfl rfl rfl _ t.k _ _ w hs hle he h1 hl).mono fun e w' ⟨v, m, cc, he, ho, ha, h1, h2⟩ => ⟨s, c, es, v, m, cc, he, hσ, ho, ha, h1, h2⟩
theorem tail_runs_g (op : Nat) (X Y Z : Arr) (S1 S2 S3 : List Nat) (h1 : Good X S1) (h2 : Good Y S2) (h3 : Good Z S3) (hd : Does [X, Y] ⟨op, 0, 1, 0, 0, false⟩ [X, Y, Z] ⟨false, 0, []⟩) :
    Runs [X, Y] (tailS op) (tailA S3 S1 S2) [X, Y, Z] :=
  .cons (by simp) hd (.cons (by simp) (does_nums_g _ ⟨14, 2, 0, 0, 0, false⟩ Z S3 rfl rfl h3) (.cons (by simp) (does_count_g _ ⟨10, 2, 0, 0, 0, false⟩ Z S3 rfl rfl h3) (.cons (by simp) (does_empty_g _ ⟨15, 2, 0, 0, 0, false⟩ Z S3 rfl rfl h3)
    (.cons (by simp) (does_nums_g _ ⟨14, 0, 0, 0, 0, false⟩ X S1 rfl rfl h1) (.cons (by simp) (does_nums_g _ ⟨14, 1, 0, 0, 0, false⟩ Y S2 rfl rfl h2) (.nil _))))))
end Go.Proofs.YtjnefgmoobbniaaGreat
