/- AVL trees in memory, and the walks of the small functions on nodes. -/
import Derived.Test.YtidekgmpbcnfmaaAvMath
import Derived.Test.YtidekgmpbcnfmaaFr
import Derived.Test.YtidekgmpbcnfmaaStep
import Derived.BigQuiet
import Derived.Deep.QuietTactic
import Derived.StillTailTactics
import Derived.Deep.RegionLaw
import Derived.IntWalk
namespace Go.Proofs.Ytidekgmpbcnfmaa
set_option linter.unusedVariables false
open Go.RowKit Avm

def ent (k v : Int) : Value := .iface 99 (.agg #[.int .i64 k, .int .i64 v])
/-- the node in block b -/
def Nd (w : World) (b : Nat) (bal : Int) (l r : Option Addr) (k v : Int) : Prop := Blk w b 94 #[.int .i8 bal, .pointer l, .pointer r, .iface 99 (.agg #[.int .i64 k, .int .i64 v])]
def at0 (b : Nat) : Option Addr := some ⟨b, 0, none⟩
def ptr : T → Option Addr
  | .nil => none
  | .nd b _ _ _ _ _ => some ⟨b, 0, none⟩
def At (w : World) : T → Prop
  | .nil => True
  | .nd b bal l k v r => Nd w b bal (ptr l) (ptr r) k v ∧ At w l ∧ At w r

theorem At.fr {w w' : World} {F F' : List Nat} : ∀ {t : T}, At w t → Fr F F' w w' → (∀ b ∈ t.blocks, b ∉ F) → At w' t
  | .nil, _, _, _ => trivial
  | .nd b bal l k v r, ⟨h1, h2, h3⟩, hf, hd => ⟨hf.blk h1 (hd b List.mem_cons_self), h2.fr hf fun x hx => hd x (List.mem_cons_of_mem _ (List.mem_append_left _ hx)), h3.fr hf fun x hx => hd x (List.mem_cons_of_mem _ (List.mem_append_right _ hx))⟩
theorem At.below {w w' : World} {t : T} (h : At w t) (hb : Below w.heap.size w w') : At w' t := h.fr (Fr.of_below [] hb) (fun _ _ h => by cases h)
theorem At.lt {w : World} : ∀ {t : T}, At w t → ∀ b ∈ t.blocks, b < w.heap.size
  | .nil, _, b, hb => by cases hb
  | .nd c bal l k v r, ⟨h1, h2, h3⟩, b, hb => by
    rcases List.mem_cons.1 hb with rfl | hb
    · exact Blk.lt h1
    · rcases List.mem_append.1 hb with h | h
      · exact h2.lt b h
      · exact h3.lt b h

def top (fs : List Fm) (x : Option Addr) : Option Addr :=
  match fs with
  | [] => x
  | f :: _ => some ⟨f.b, 0, none⟩
def AtC (w : World) : List Fm → Option Addr → Prop
  | [], _ => True
  | f :: fs, x => Nd w f.b f.bal (if f.d then ptr f.sib else top fs x) (if f.d then top fs x else ptr f.sib) f.k f.v ∧ At w f.sib ∧ AtC w fs x
theorem ptr_plug (fs : List Fm) (t : T) : ptr (plug fs t) = top fs (ptr t) := by
  cases fs with
  | nil => rfl
  | cons f fs =>
    unfold plug Fm.put top
    cases f.d <;> rfl
theorem at_plug (w : World) (fs : List Fm) (t : T) : At w (plug fs t) ↔ AtC w fs (ptr t) ∧ At w t := by
  induction fs with
  | nil => simp [plug, AtC]
  | cons f fs ih =>
    unfold plug Fm.put
    cases hd : f.d
    · simp only [Bool.false_eq_true, if_false, At, AtC, hd, ih, ptr_plug]
      constructor
      · rintro ⟨h1, ⟨h2, h3⟩, h4⟩; exact ⟨⟨h1, h4, h2⟩, h3⟩
      · rintro ⟨⟨h1, h4, h2⟩, h3⟩; exact ⟨h1, ⟨h2, h3⟩, h4⟩
    · simp only [if_true, At, AtC, hd, ih, ptr_plug]
      constructor
      · rintro ⟨h1, h4, h2, h3⟩; exact ⟨⟨h1, h4, h2⟩, h3⟩
      · rintro ⟨⟨h1, h4, h2⟩, h3⟩; exact ⟨h1, h4, h2, h3⟩
theorem top_append (fs gs : List Fm) (x : Option Addr) : top (fs ++ gs) x = top fs (top gs x) := by
  cases fs <;> rfl
theorem AtC_append (w : World) (fs gs : List Fm) (x : Option Addr) : AtC w (fs ++ gs) x ↔ AtC w fs (top gs x) ∧ AtC w gs x := by
  induction fs with
  | nil => simp [AtC]
  | cons f fs ih =>
    simp only [List.cons_append, AtC, ih, top_append]
    constructor
    · rintro ⟨h1, h2, h3, h4⟩; exact ⟨⟨h1, h2, h3⟩, h4⟩
    · rintro ⟨⟨h1, h2, h3⟩, h4⟩; exact ⟨h1, h2, h3, h4⟩
theorem AtC.fr {w w' : World} {F F' : List Nat} : ∀ {fs : List Fm} {x : Option Addr}, AtC w fs x → Fr F F' w w' → (∀ b ∈ cblocks fs, b ∉ F) → AtC w' fs x
  | [], _, _, _, _ => trivial
  | f :: fs, x, ⟨h1, h2, h3⟩, hf, hd => ⟨hf.blk h1 (hd _ List.mem_cons_self), h2.fr hf fun b hb => hd b (List.mem_cons_of_mem _ (List.mem_append_left _ hb)), AtC.fr h3 hf fun b hb => hd b (List.mem_cons_of_mem _ (List.mem_append_right _ hb))⟩
theorem AtC.below {w w' : World} {fs : List Fm} {x : Option Addr} (h : AtC w fs x) (hb : Below w.heap.size w w') : AtC w' fs x := h.fr (Fr.of_below [] hb) (fun _ _ h => by cases h)
theorem AtC.lt {w : World} : ∀ {fs : List Fm} {x : Option Addr}, AtC w fs x → ∀ b ∈ cblocks fs, b < w.heap.size
  | [], _, _, b, hb => by cases hb
  | f :: fs, x, ⟨h1, h2, h3⟩, b, hb => by
    rcases List.mem_cons.1 hb with rfl | hb
    · exact Blk.lt h1
    · rcases List.mem_append.1 hb with h | h
      · exact h2.lt b h
      · exact AtC.lt h3 b h
theorem Nd.fr {w w' : World} {F F' : List Nat} {b : Nat} {bal : Int} {l r : Option Addr} {k v : Int} (h : Nd w b bal l r k v) (hf : Fr F F' w w') (hb : b ∉ F) : Nd w' b bal l r k v := hf.blk h hb
theorem Nd.below {w w' : World} {b : Nat} {bal : Int} {l r : Option Addr} {k v : Int} (h : Nd w b bal l r k v) (hb : Below w.heap.size w w') : Nd w' b bal l r k v := h.fr (Fr.of_below [] hb) (fun h => by cases h)

theorem Nd.setB {w : World} {b : Nat} {bal : Int} {l r : Option Addr} {k v : Int} (h : Nd w b bal l r k v) (x : Int) : Nd (w.setCell ⟨b, 0, none⟩ (.int .i8 x)) b x l r k v := Blk.set h 0 (.int .i8 x)
theorem Nd.setL {w : World} {b : Nat} {bal : Int} {l r : Option Addr} {k v : Int} (h : Nd w b bal l r k v) (x : Option Addr) : Nd (w.setCell ⟨b, 1, none⟩ (.pointer x)) b bal x r k v := Blk.set h 1 (.pointer x)
theorem Nd.setR {w : World} {b : Nat} {bal : Int} {l r : Option Addr} {k v : Int} (h : Nd w b bal l r k v) (x : Option Addr) : Nd (w.setCell ⟨b, 2, none⟩ (.pointer x)) b bal l x k v := Blk.set h 2 (.pointer x)
theorem Nd.setE {w : World} {b : Nat} {bal : Int} {l r : Option Addr} {k v : Int} (h : Nd w b bal l r k v) (k2 v2 : Int) : Nd (w.setCell ⟨b, 3, none⟩ (.iface 99 (.agg #[.int .i64 k2, .int .i64 v2]))) b bal l r k2 v2 := Blk.set h 3 _
theorem Nd.oth {w : World} {b : Nat} {bal : Int} {l r : Option Addr} {k v : Int} (h : Nd w b bal l r k v) {a : Addr} (hne : b ≠ a.block) (u : Value) : Nd (w.setCell a u) b bal l r k v := Blk.other h hne u
theorem Nd.drew {w : World} {b : Nat} {bal : Int} {l r : Option Addr} {k v : Int} (h : Nd w b bal l r k v) : Nd w.drew b bal l r k v := h
set_option maxRecDepth 100000 in
theorem copynode_any (b : Nat) (bal : Int) (l r : Option Addr) (k v : Int) (w : World) (h : Nd w b bal l r k v) :
    Calls Try.prog 45 #[.pointer (some ⟨b, 0, none⟩)] w fun e w' => e = .returned (.pointer (some ⟨w.heap.size, 0, none⟩)) ∧ Nd w' w.heap.size bal l r k v ∧ Below w.heap.size w w' ∧ w'.heap.size = w.heap.size + 1 := by
  have c0 := Blk.cell h 0 rfl
  have c1 := Blk.cell h 1 rfl
  have c2 := Blk.cell h 2 rfl
  have c3 := Blk.cell h 3 rfl
  clear h
  go_enter Try.func45, Try.ntmps45
  go_wp2_with fail
  refine wp_region_still_tail 20 (by kernel_rfl) (by kernel_rfl) ?_
  simp only [List.take_succ_cons, List.take_zero, List.drop_succ_cons, List.drop_zero]
  repeat still_step
  refine wpStill_nil ?_
  change wpList _ _ _ _ _ w.drew
  go_wp2_with fail
  go_ret
  exact ⟨rfl, Blk.new _ _ _, (Below.refl _ _).drew.alloc (Nat.le_refl _) _, by simp⟩

theorem order_any (a b : Int) (w : World) : Calls Try.prog 76 #[.int .i64 a, .int .i64 b] w fun e w' => e = .returned (.int .i64 (if a < b then -1 else if b < a then 1 else 0)) ∧ w' = w := by
  by_cases h1 : a < b
  · rw [if_pos h1]
    go_enter Try.func76, Try.ntmps76
    go_wp2_with fail
    go_ret
    exact ⟨rfl, rfl⟩
  · rw [if_neg h1]
    by_cases h2 : b < a
    · rw [if_pos h2]
      go_enter Try.func76, Try.ntmps76
      go_wp2_with fail
      go_ret
      exact ⟨rfl, rfl⟩
    · rw [if_neg h2]
      go_enter Try.func76, Try.ntmps76
      go_wp2_with fail
      go_ret
      exact ⟨rfl, rfl⟩

theorem assert_ave (v : Value) (w : World) : (Instr.typeAssert (.iface 99 v) 92 99 false).run Try.prog w = .ok v w := by kernel_rfl
theorem meth_cmp (x : Value) (w : World) : (method 234 99 x "Compare").run Try.prog w = .ok (75, x) w := by kernel_rfl

/-- what Compare says -/
def cmp (a b : Int) : Int := if a < b then -1 else if b < a then 1 else 0
theorem field_ave (y1 y2 : Int) (w : World) : (Instr.field 99 (.agg #[.int .i64 y1, .int .i64 y2]) 0).run Try.prog w = .ok (.agg #[.int .i64 y1, .int .i64 y2]) w := by kernel_rfl
theorem field_avk (y1 y2 : Int) (w : World) : (Instr.field 25 (.agg #[.int .i64 y1, .int .i64 y2]) 0).run Try.prog w = .ok (.int .i64 y1) w := by kernel_rfl
set_option maxRecDepth 100000 in
theorem compare_any (k v k2 v2 : Int) (w : World) : Calls Try.prog 75 #[.agg #[.int .i64 k, .int .i64 v], .iface 99 (.agg #[.int .i64 k2, .int .i64 v2])] w fun e w' => e = .returned (.int .i64 (cmp k k2)) ∧ Below w.heap.size w w' := by
  have hta := assert_ave
  have hpa := field_ave k2 v2
  have hpb := field_avk k2 v2
  have ho : ∀ w', Calls Try.prog 76 #[.int .i64 k, .int .i64 k2] w' fun e w'' => e = .returned (.int .i64 (cmp k k2)) ∧ w'' = w' := fun w' => order_any k k2 w'
  have HO := Lib.hid ho
  clear ho
  go_enter Try.func75, Try.ntmps75
  go_wp2_with fail
  go_quiet ((go_at_call 76; exact Calls.quiet_of_same (HO.out _)))
  go_wp2_with fail
  go_ret
  exact ⟨rfl, below_drewN ((Below.refl _ _).alloc (Nat.le_refl _) _) _⟩

/-- the side on which a key lies: -1 where it is -/
def nrm (i : Int) : Int := if i < 0 then 1 else if 0 < i then 0 else -1
theorem norm_any (i : Int) (w : World) : Calls Try.prog 48 #[.int .i64 i] w fun e w' => e = .returned (.int .i64 (nrm i)) ∧ w' = w := by
  unfold nrm
  by_cases h1 : i < 0
  · rw [if_pos h1]
    go_enter Try.func48, Try.ntmps48
    go_wp2_with fail
    go_ret
    exact ⟨rfl, rfl⟩
  · rw [if_neg h1]
    by_cases h2 : 0 < i
    · rw [if_pos h2]
      go_enter Try.func48, Try.ntmps48
      go_wp2_with fail
      go_ret
      exact ⟨rfl, rfl⟩
    · rw [if_neg h2]
      go_enter Try.func48, Try.ntmps48
      go_wp2_with fail
      go_ret
      exact ⟨rfl, rfl⟩
set_option maxRecDepth 100000 in
theorem newnode_any (k v : Int) (w : World) :
    Calls Try.prog 46 #[.iface 99 (.agg #[.int .i64 k, .int .i64 v])] w fun e w' => e = .returned (.pointer (some ⟨w.heap.size, 0, none⟩)) ∧ Nd w' w.heap.size 0 none none k v ∧ Below w.heap.size w w' ∧ w'.heap.size = w.heap.size + 1 := by
  go_enter Try.func46, Try.ntmps46
  go_wp2_with fail
  go_ret
  exact ⟨rfl, Blk.new _ _ _, (Below.refl _ _).alloc (Nat.le_refl _) _, by simp⟩
theorem opp_any (d : Int) (h0 : 0 ≤ d) (h1 : d ≤ 1) (w : World) : Calls Try.prog 57 #[.int .i64 d] w fun e w' => e = .returned (.int .i64 (1 - d)) ∧ w' = w := by
  have e1 : IntKind.i64.wrap (1 - d) = 1 - d := IntWalk.i64_in _ (by omega)
  go_enter Try.func57, Try.ntmps57
  go_wp2_with fail
  go_ret
  exact ⟨rfl, rfl⟩
set_option maxRecDepth 100000 in
theorem rot0_any (p c : Nat) (pb cb : Int) (a x y : Option Addr) (k v k2 v2 : Int) (w : World) (hp : Nd w p pb a (some ⟨c, 0, none⟩) k v) (hc : Nd w c cb x y k2 v2) (hne : p ≠ c) :
    Calls Try.prog 56 #[.pointer (some ⟨p, 0, none⟩), .int .i64 0] w fun e w' => e = .returned (.pointer (some ⟨c, 0, none⟩)) ∧ Nd w' p pb a x k v ∧ Nd w' c cb (some ⟨p, 0, none⟩) y k2 v2 ∧ Fr [p, c] [p, c] w w' := by
  have HP := Lib.hid hp
  have HC := Lib.hid hc
  have c1 := Blk.cell hp 2 rfl
  have c2 := Blk.cell hc 1 rfl
  have f1 := Blk.free hp 2
  have f2 := Blk.free hc 1
  have hne2 : ¬ c = p := fun e => hne e.symm
  have HNE := Lib.hid hne
  have HO := Lib.hid (opp_any)
  clear hp hc
  go_enter Try.func56, Try.ntmps56
  go_wp2_with fail
  refine (HO.out 0 (by omega) (by omega) _).mono ?_
  rintro e w1 ⟨rfl, rfl⟩
  go_wp2_with fail
  refine wp_region_still_tail 10 (by kernel_rfl) (by kernel_rfl) ?_
  simp only [List.take_succ_cons, List.take_zero, List.drop_succ_cons, List.drop_zero]
  repeat still_step
  refine wpStill_nil ?_
  change wpList _ _ _ _ _ w1.drew
  go_wp2_with fail
  go_ret
  exact ⟨rfl, (HP.out.setR x).oth hne _, (HC.out.oth hne2 _).setL _, ((Fr.store w1 (F := [p, c]) (a := ⟨p, 2, none⟩) (by simp) _).trans (Fr.store _ (F := [p, c]) (a := ⟨c, 1, none⟩) (by simp) _)).drew⟩

set_option maxRecDepth 100000 in
theorem rot1_any (p c : Nat) (pb cb : Int) (a x y : Option Addr) (k v k2 v2 : Int) (w : World) (hp : Nd w p pb (some ⟨c, 0, none⟩) a k v) (hc : Nd w c cb y x k2 v2) (hne : p ≠ c) :
    Calls Try.prog 56 #[.pointer (some ⟨p, 0, none⟩), .int .i64 1] w fun e w' => e = .returned (.pointer (some ⟨c, 0, none⟩)) ∧ Nd w' p pb x a k v ∧ Nd w' c cb y (some ⟨p, 0, none⟩) k2 v2 ∧ Fr [p, c] [p, c] w w' := by
  have HP := Lib.hid hp
  have HC := Lib.hid hc
  have c1 := Blk.cell hp 1 rfl
  have c2 := Blk.cell hc 2 rfl
  have f1 := Blk.free hp 1
  have f2 := Blk.free hc 2
  have hne2 : ¬ c = p := fun e => hne e.symm
  have HNE := Lib.hid hne
  have HO := Lib.hid (opp_any)
  clear hp hc
  go_enter Try.func56, Try.ntmps56
  go_wp2_with fail
  refine (HO.out 1 (by omega) (by omega) _).mono ?_
  rintro e w1 ⟨rfl, rfl⟩
  go_wp2_with fail
  refine wp_region_still_tail 10 (by kernel_rfl) (by kernel_rfl) ?_
  simp only [List.take_succ_cons, List.take_zero, List.drop_succ_cons, List.drop_zero]
  repeat still_step
  refine wpStill_nil ?_
  change wpList _ _ _ _ _ w1.drew
  go_wp2_with fail
  go_ret
  exact ⟨rfl, (HP.out.setL x).oth hne _, (HC.out.oth hne2 _).setR _, ((Fr.store w1 (F := [p, c]) (a := ⟨p, 1, none⟩) (by simp) _).trans (Fr.store _ (F := [p, c]) (a := ⟨c, 2, none⟩) (by simp) _)).drew⟩

end Go.Proofs.Ytidekgmpbcnfmaa
