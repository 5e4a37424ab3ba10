/- Walk of impl.STRun at steps that add and remove. -/
import Derived.Test.YtdmkijdokmnicaaSetAll
import Derived.Test.YtdmkijdokmnicaaRow
import Derived.Test.YtdmkijdokmnicaaStep
import Derived.Deep.RegionLaw
import Derived.Deep.DeepCutAuto
import Derived.Deep.CutRange
import Derived.Deep.CutBlock
import Derived.Deep.DeepMust
namespace Go.Proofs.Ytdmkijdokmnicaa
set_option linter.unusedVariables false
open Go.RowKit

/-- a step: the operation (1 or 2), the items as a value and as numbers -/
structure StStep where
  op : Nat
  val : Value
  items : List Int
/-- what the set holds behind the steps -/
def stNext (l : List Int) (x : StStep) : List Int := if x.op = 1 then Zs.addAll l x.items else Zs.remAll l x.items
def stAfter (l0 : List Int) (xs : List StStep) : List Int := xs.foldl stNext l0
theorem stAfter_snoc (l0 : List Int) (xs : List StStep) (x : StStep) : stAfter l0 (xs ++ [x]) = stNext (stAfter l0 xs) x := by
  unfold stAfter; rw [List.foldl_append]; rfl
def stRow (x : StStep) : List Value := [.int .i64 (x.op : Int), x.val]

/-- a row of what is said: Len, Flat, All, Exists -/
def SaidIs (w : World) (Z s b : Nat) (l items : List Int) (row : List Value) : Prop :=
  ∃ (fq eq : Option Addr) (fn fc en ec : Nat) (ks : List Int), row = [.int .i64 (l.length : Int), .slice fq fn fc, .bool (items.all fun x => decide (x ∈ l)), .slice eq en ec] ∧ w.ownsRow Z 3 1 (.slice fq fn fc) ks.length (i64s ks) ∧ SameSet ks l

theorem info_said : (Try.prog.info? 45).map (fun i => (i.zero, i.size, i.bytes)) = some (some (.agg #[.int .i64 0, .slice none 0 0, .bool false, .slice none 0 0]), 4, 64) := by kernel_rfl

/-- what stands behind the first calls of a round: the new record -/
def SaidCut (L : Int) (al : Bool) (w : World) (v9 : Value) (wx : World) : Prop :=
  ∃ sd : Nat, v9 = .pointer (some ⟨sd, 0, none⟩) ∧ Blk wx sd 45 #[.int .i64 L, .slice none 0 0, .bool al, .slice none 0 0] ∧ w.heap.size ≤ sd ∧ Below w.heap.size w wx

theorem blk_after {x w' : World} {t : TypeId} {cs : Array Value} (hb : Below (x.alloc (.cells cs t)).heap.size (x.alloc (.cells cs t)) w') : Blk w' x.heap.size t cs :=
  (Blk.new x t cs).below hb (by simp)

theorem blk_afterD {x w' : World} {t : TypeId} {cs : Array Value} (hb : Below (x.alloc (.cells cs t)).drew.heap.size (x.alloc (.cells cs t)).drew w') : Blk w' x.heap.size t cs :=
  (Blk.new x t cs).drew.below hb (by show x.heap.size < (x.alloc _).heap.size; simp)
theorem Sl.alloc {w : World} {v : Value} {vs : List Value} (h : Sl w v vs) (o : Obj) : Sl (w.alloc o) v vs := h.below rfl ((Below.refl _ _).alloc (Nat.le_refl _) _)
theorem Sl.drew {w : World} {v : Value} {vs : List Value} (h : Sl w v vs) : Sl w.drew v vs := h.below rfl (Below.refl _ _).drew

theorem Blk.next {w w' : World} {b : Nat} {t : TypeId} {cs : Array Value} (h : Blk w b t cs) (hb : Below w.heap.size w w') : Blk w' b t cs := h.below hb h.lt

theorem Blk.four {w : World} {b : Nat} {t : TypeId} {a0 a1 a2 a3 b0 b1 b2 b3 : Value} (h : Blk w b t #[a0, a1, a2, a3]) : Blk ((((w.setCell ⟨b, 0, none⟩ b0).setCell ⟨b, 1, none⟩ b1).setCell ⟨b, 2, none⟩ b2).setCell ⟨b, 3, none⟩ b3) b t #[b0, b1, b2, b3] := by
  simpa using (((h.set 0 b0).set 1 b1).set 2 b2).set 3 b3

theorem said_new {L : Int} {al : Bool} {w W : World} (h : Below w.heap.size w W) : SaidCut L al w (.pointer (some ⟨W.heap.size, 0, none⟩)) (W.alloc (.cells #[.int .i64 L, .slice none 0 0, .bool al, .slice none 0 0] 45)) :=
  ⟨_, rfl, Blk.new _ _ _, h.size, h.alloc h.size _⟩
theorem said_old {L : Int} {al : Bool} {w W : World} {sd : Nat} {a0 a1 a2 a3 : Value} (hb : Blk W sd 45 #[a0, a1, a2, a3]) (h : Below w.heap.size w W) (n : w.heap.size ≤ sd) :
    SaidCut L al w (.pointer (some ⟨sd, 0, none⟩)) ((((W.setCell ⟨sd, 0, none⟩ (.int .i64 L)).setCell ⟨sd, 1, none⟩ (.slice none 0 0)).setCell ⟨sd, 2, none⟩ (.bool al)).setCell ⟨sd, 3, none⟩ (.slice none 0 0)) :=
  ⟨_, rfl, hb.four, n, (((h.setCell n _).setCell n _).setCell n _).setCell n _⟩

theorem own_len {w : World} {B : Nat} {e : TypeId} {size : Nat} {p : Option Addr} {m cap n : Nat} {xs : List Value} (h : w.ownsRow B e size (.slice p m cap) n xs) : m = n := by
  rcases h.2 with ⟨e1, e2⟩ | ⟨g, c, cur, e1, _⟩
  · simp only [Value.slice.injEq] at e1; omega
  · simp only [Value.slice.injEq] at e1; omega

/-- the loop that takes over what Flatten said -/
def FlatIn (ks : List Int) (n sd : Nat) (L : Int) (al : Bool) (w : World) (k : Nat) (idx : Value) (wr : World) : Prop :=
  ∃ (i : Nat) (q : Option Addr) (c : Nat), idx = .int .i64 (i : Int) ∧ i + k = n ∧ Blk wr sd 45 #[.int .i64 L, .slice q i c, .bool al, .slice none 0 0] ∧ wr.ownsRow w.heap.size 3 1 (.slice q i c) i (i64s (ks.take i)) ∧ w.grownBy wr (some sd)

theorem only8_refl (a : World) (row : Option Nat) : a.grownBy a row := ⟨rfl, rfl, rfl, Nat.le_refl _, fun _ _ _ => rfl⟩

theorem assert_int (X : Int) (w : World) : (Instr.typeAssert (.iface 3 (.int .i64 X)) 20 3 false).run Try.prog w = .ok (.int .i64 X) w := by kernel_rfl

theorem SetAt.grown {w w' : World} {s b : Nat} {l : List Int} {fl : Value} (h : SetAt w s b l fl) {row : Option Nat} (hg : w.grownBy w' row) (h1 : row ≠ some s) (h2 : row ≠ some b) : SetAt w' s b l fl :=
  ⟨h.1.grown hg h1, h.2.1.grown hg h2, h.2.2.1, h.2.2.2⟩
def bls (l : List Bool) : List Value := l.map Value.bool
/-- the loop over what is asked -/
def ExIn (n sd : Nat) (L : Int) (fv : Value) (al : Bool) (w : World) (k : Nat) (idx : Value) (wr : World) : Prop :=
  ∃ (i : Nat) (q : Option Addr) (c : Nat) (bl : List Bool), idx = .int .i64 (i : Int) ∧ i + k = n ∧ Blk wr sd 45 #[.int .i64 L, fv, .bool al, .slice q i c] ∧ wr.ownsRow w.heap.size 4 1 (.slice q i c) i (bls bl) ∧ w.grownBy wr (some sd)
theorem info_bool2 : (Try.prog.info? 4).map (fun i => (i.zero, i.size, i.bytes)) = some (some (.bool false), 1, 1) := by kernel_rfl

theorem exists_enter (args : Array Value) (w : World) : (callFunc 28 args).run Try.prog w = .ok (.enter 28 args) w := by kernel_rfl

def StLoop (l0 : List Int) (xs : List StStep) (n s b Z : Nat) (w : World) (k : Nat) (out idx : Value) (wr : World) : Prop :=
  ∃ (i : Nat) (p : Option Addr) (cap : Nat) (rows : List (List Value)) (fl : Value), out = .slice p i cap ∧ idx = .int .i64 (i : Int) ∧ i + k = n ∧ wr.ownsRow Z 45 4 (.slice p i cap) i rows.flatten ∧ (∀ r ∈ rows, r.length = 4) ∧ rows.length = i ∧
    SetAt wr s b (stAfter l0 (xs.take i)) fl ∧ (∀ j x row, j < i → xs[j]? = some x → rows[j]? = some row → SaidIs wr Z s b (stAfter l0 (xs.take (j + 1))) x.items row) ∧ Below w.heap.size w wr ∧ Z ≤ wr.heap.size

/-- behind the step's own call: the set has turned -/
def StCut (s b : Nat) (l' : List Int) (wr : World) (wx : World) : Prop := SetAt wx s b l' (.slice none 0 0) ∧ Only2 s b wr wx

theorem mem_take_snoc {α : Type} (l : List α) (i : Nat) (h : i < l.length) : l.take (i + 1) = l.take i ++ [l[i]] := List.take_succ_eq_append_getElem h

set_option maxRecDepth 100000 in
set_option maxHeartbeats 16000000 in
theorem strun_any (v u : Value) (first : List Int) (xs : List StStep) (n : Nat) (w : World) (hv : Sl w v (i64s first)) (hu : Rw 2 w u (xs.map stRow)) (hf : first.length ≤ 1000) (hn : xs.length = n) (hn9 : n ≤ 1000)
    (hx : ∀ x ∈ xs, (x.op = 1 ∨ x.op = 2) ∧ Sl w x.val (i64s x.items) ∧ x.items.length ≤ 1000) (hlen : ∀ j, j ≤ n → (stAfter (Zs.addAll [] first) (xs.take j)).length ≤ 100000) :
    Calls Try.prog 10 #[v, u] w fun e w' => ∃ (v' : Value) (rows : List (List Value)) (Z s b : Nat), e = .returned v' ∧ Rw 4 w' v' rows ∧ rows.length = n ∧ (∀ j x row, xs[j]? = some x → rows[j]? = some row → SaidIs w' Z s b (stAfter (Zs.addAll [] first) (xs.take (j + 1))) x.items row) ∧ Below w.heap.size w w' := by
  obtain ⟨ua, un, uc, rfl, hul, huc, hum, hur⟩ := hu
  rw [List.length_map, hn] at hul
  subst hul
  have HUR := Lib.hid hur
  have HX := Lib.hid hx
  have HN := Lib.hid hn
  have HLEN := Lib.hid hlen
  obtain ⟨l0, hl0⟩ : ∃ l0, Zs.addAll [] first = l0 := ⟨_, rfl⟩
  have HL0 := Lib.hid hl0
  rw [hl0] at HLEN ⊢
  have HV := Lib.hid hv
  clear hur hx hn hlen huc hum hv hl0
  go_enter Try.func10, Try.ntmps10
  go_wp2_with fail
  refine (anys_any _ first _ HV.out hf).mono ?_
  rintro e w1 ⟨v1, rfl, hown1, hb1⟩
  have HS1 := Lib.hid (Sl.of_owns hown1)
  have HB1 := Lib.hid hb1
  clear hown1 hb1
  go_wp2_with fail
  refine (snew_any _ first _ HS1.out hf).mono ?_
  rintro e w2 ⟨s, b, rfl, hset, hs2, hb2, hbel2⟩
  rw [HL0.out] at hset
  have HSET := Lib.hid hset
  have HT2 := Lib.hid (HB1.out.trans (hbel2.mono HB1.out.size))
  have HSB0 : Hid (w.heap.size ≤ s ∧ w.heap.size ≤ b) := Lib.hid (by have := HB1.out.size; omega)
  clear hset hs2 hb2 hbel2
  go_wp2_with fail
  go_loopg [6, 19] n (fun k out idx wr => StLoop l0 xs n s b w2.heap.size w k out idx wr)
  case atStart =>
    exact ⟨0, none, 0, [], .slice none 0 0, rfl, rfl, by omega, World.ownsRow_nil _ _ _ _, by simp, rfl, by simpa [stAfter] using HSET.out, fun j x row hj => by omega, HT2.out, Nat.le_refl _⟩
  case round =>
    obtain ⟨i, p, cap, rows, fl, rfl, rfl, hik, hown, hr4, hrl, hset, hsaid, hbel, hzz⟩ := hrel
    have HO := Lib.hid hown
    have HR4 := Lib.hid hr4
    have HRL := Lib.hid hrl
    have HS := Lib.hid hset
    have HSAID := Lib.hid hsaid
    have HB := Lib.hid hbel
    clear hown hr4 hrl hset hsaid hbel
    by_cases hi : i < n
    · cases gk with
      | zero => omega
      | succ k =>
        obtain ⟨bu, ou, rfl, hcell⟩ := HUR.out (by omega)
        have hil : i < xs.length := by rw [HN.out]; exact hi
        have hrow : (xs.map stRow)[i]? = some (stRow xs[i]) := by simp [hil]
        have e0 := hcell i _ hrow 0 _ rfl
        have e1 := hcell i _ hrow 1 _ rfl
        rw [← HB.out.cell (World.block_lt_of_cell? w _ e0)] at e0
        rw [← HB.out.cell (World.block_lt_of_cell? w _ e1)] at e1
        obtain ⟨hop, hsl, hil9⟩ := HX.out _ (List.getElem_mem hil)
        have hnext : stAfter l0 (xs.take (i + 1)) = stNext (stAfter l0 (xs.take i)) xs[i] := by rw [mem_take_snoc xs i hil, stAfter_snoc]
        obtain ⟨x, hxe⟩ : ∃ x, x = xs[i]'hil := ⟨_, rfl⟩
        rw [← hxe] at e1 hop hsl hil9 hnext
        have e0' : wr.cell? ⟨bu, ou + i * 2, none⟩ = some (.int .i64 (x.op : Int)) := by rw [hxe]; simpa using e0
        have e1' : wr.cell? ⟨bu, ou + i * 2 + 1, none⟩ = some x.val := by rw [Nat.add_assoc]; exact e1
        have HXE : Hid (xs[i]? = some x) := Lib.hid (by rw [hxe]; simp [hil])
        obtain ⟨op, xv, items⟩ := x
        simp only [] at e0' e1' hop hsl hil9 hnext
        obtain ⟨l, hl⟩ : ∃ l, stAfter l0 (xs.take i) = l := ⟨_, rfl⟩
        obtain ⟨l', hl'⟩ : ∃ l', stAfter l0 (xs.take (i + 1)) = l' := ⟨_, rfl⟩
        rw [hl, hl'] at hnext
        have HNEXT := Lib.hid hnext
        have HLl' := Lib.hid hl'
        have HSl : Hid (SetAt wr s b l fl) := Lib.hid (by rw [← hl]; exact HS.out)
        have hl9 : l'.length ≤ 100000 := by rw [← hl']; exact HLEN.out _ (by omega)
        have HSLI := Lib.hid (hsl.below rfl HB.out)
        have HSL0 := Lib.hid hsl
        have hsl0 := hsl
        obtain ⟨xa, xn, xc, rfl, _⟩ := hsl0
        have hxn : xn = items.length := by have := hsl.length; rw [i64s_len] at this; omega
        have hxn9 : xn ≤ 1000 := by omega
        have HXN := Lib.hid hxn
        have HL9 := Lib.hid hl9
        have HI9 := Lib.hid hil9
        obtain ⟨W5, hW5⟩ : ∃ W5, W5 = wr.alloc (.cells #[.int .i64 (op : Int), .slice xa xn xc] 41) := ⟨_, rfl⟩
        have hb5 : Below wr.heap.size wr W5 := by rw [hW5]; exact (Below.refl _ _).alloc (Nat.le_refl _) _
        have k5 : Blk W5 wr.heap.size 41 #[.int .i64 (op : Int), .slice xa xn xc] := by rw [hW5]; exact Blk.new _ _ _
        have HS5 := Lib.hid (HSl.out.below hb5)
        have HSL5 := Lib.hid (HSLI.out.below rfl hb5)
        have HK5 := Lib.hid k5
        have HB5 := Lib.hid hb5
        have HANY := Lib.hid (anys_any _ items W5 HSL5.out HI9.out)
        rw [hW5] at HANY
        have HW5 := Lib.hid hW5
        clear e0 e1 hcell hsl hxe hl hl' hnext hl9 hil9 hb5 k5 hW5 hrow hil hxn
        go_upto_block 2 with fail
        go_cut [] (fun wx => StCut s b l' W5 wx)
        case first =>
          rcases hop with rfl | rfl
          · go_wp2_with fail
            refine HANY.out.mono ?_
            rintro e w6 ⟨v6, rfl, hown6, hb6⟩
            have HC := Lib.hid (sadd_any s b l items fl v6 w6 (HS5.out.below (by rw [HW5.out]; exact hb6)) (Sl.of_owns hown6) (apart_owns hown6 (HS5.out.below (by rw [HW5.out]; exact hb6)) (by decide)) HI9.out)
            have HB6 : Hid (Below W5.heap.size W5 w6) := Lib.hid (by rw [HW5.out]; exact hb6)
            clear hown6 hb6
            go_wp2_with fail
            refine HC.out.mono ?_
            rintro e w7 ⟨rfl, hset7, hon7⟩
            go_wp2_with fail
            go_meet
            exact ⟨by rw [HNEXT.out]; exact hset7, (Only2.of_below HB6.out).trans hon7⟩
          · go_wp2_with fail
            refine HANY.out.mono ?_
            rintro e w6 ⟨v6, rfl, hown6, hb6⟩
            have HC := Lib.hid (srem_any s b l items fl v6 w6 (HS5.out.below (by rw [HW5.out]; exact hb6)) (Sl.of_owns hown6) (apart_owns hown6 (HS5.out.below (by rw [HW5.out]; exact hb6)) (by decide)) HI9.out)
            have HB6 : Hid (Below W5.heap.size W5 w6) := Lib.hid (by rw [HW5.out]; exact hb6)
            clear hown6 hb6
            go_wp2_with fail
            refine HC.out.mono ?_
            rintro e w7 ⟨rfl, hset7, hon7⟩
            go_wp2_with fail
            go_meet
            exact ⟨by rw [HNEXT.out]; exact hset7, (Only2.of_below HB6.out).trans hon7⟩
        case rest =>
          obtain ⟨wA, rfl⟩ : ∃ wA, wA = wc := ⟨_, rfl⟩
          have HSA := Lib.hid hcut.1
          have HOA := Lib.hid hcut.2
          have kA := hcut.2.blk HK5.out (by have := HSl.out.1.lt; omega) (by have := HSl.out.2.1.lt; omega)
          have HKA := Lib.hid kA
          have HZA : Hid (wr.heap.size < wA.heap.size) := Lib.hid (by have := HK5.out.lt; have := hcut.2.size; omega)
          have HBA : Hid (Below w.heap.size w wA) := Lib.hid ((HB.out.trans (HB5.out.mono HB.out.size)).trans (hcut.2.below HSB0.out.1 HSB0.out.2 (by have := HB.out.size; have := HB5.out.size; omega)))
          clear hcut kA
          have HSLA : Hid (Sl wA (.slice xa xn xc) (i64s items)) := Lib.hid (HSL0.out.below rfl HBA.out)
          have HTA : Hid (Below wA.heap.size wA wA) := Lib.hid (Below.refl _ _)
          have neA : ¬ wr.heap.size = wA.heap.size := by have := HZA.out; omega
          have neAb : ¬ wA.heap.size = wr.heap.size := by have := HZA.out; omega
          have c8 : wA.drew.cell? ⟨wr.heap.size, 1, none⟩ = some (.slice xa xn xc) := HKA.out.cell 1 rfl
          go_wp2_with fail
          go_cut [9] (fun v9 wx => SaidCut (l'.length : Int) (items.all fun x => decide (x ∈ l')) wA v9 wx)
          case first =>
            go_region_held3 (fun w' => w'.cell? ⟨wr.heap.size, 1, none⟩ = some (.slice xa xn xc))
              ((first | with_reducible assumption | with_reducible exact ((HKA.out.alloc _).drew).cell 1 rfl | with_reducible exact (HKA.out.alloc _).cell 1 rfl | go_keep))
              ((first
                | (go_at_call 26; have tok := HV6; (with_reducible refine Calls.mono (sall_any s b l' (.slice none 0 0) items _ _ ?_ ?_ HI9.out) ?_); (repeat (first | with_reducible exact HSA.out | with_reducible refine SetAt.drew ?_ | with_reducible refine SetAt.alloc ?_ _)); (repeat (first | with_reducible exact HV6.out | with_reducible refine Sl.drew ?_ | with_reducible refine Sl.alloc ?_ _)); rintro e w7 ⟨rfl, hb7⟩; have HSA : Hid (SetAt w7 s b l' (.slice none 0 0)) := Lib.hid (SetAt.below (by (repeat (first | with_reducible exact HSA.out | with_reducible refine SetAt.drew ?_ | with_reducible refine SetAt.alloc ?_ _))) hb7); have HSLA : Hid (Sl w7 (.slice xa xn xc) (i64s items)) := Lib.hid (Sl.below (by (repeat (first | with_reducible exact HSLA.out | with_reducible refine Sl.drew ?_ | with_reducible refine Sl.alloc ?_ _))) rfl hb7); have HTA : Hid (Below wA.heap.size wA w7) := Lib.hid (below_step (by (repeat (first | with_reducible exact HTA.out | with_reducible refine Below.drew ?_ | with_reducible refine Below.alloc ?_ ?_ _ | exact HTA.out.size))) hb7 (Nat.le_refl _)); have HKA : Hid (Blk w7 wr.heap.size 41 #[.int .i64 (op : Int), .slice xa xn xc]) := Lib.hid (Blk.next (by (repeat (first | with_reducible exact HKA.out | with_reducible refine Blk.drew ?_ | with_reducible refine Blk.alloc ?_ _))) hb7); have c8 : w7.cell? ⟨wr.heap.size, 1, none⟩ = some (.slice xa xn xc) := HKA.out.cell 1 rfl; (first | (have HSD := Lib.hid (blk_after hb7); have q0 : w7.cell? _ = some (.int .i64 0) := HSD.out.cell 0 rfl; have q1 : w7.cell? _ = some (.slice none 0 0) := HSD.out.cell 1 rfl; have q2 : w7.cell? _ = some (.bool false) := HSD.out.cell 2 rfl; have q3 : w7.cell? _ = some (.slice none 0 0) := HSD.out.cell 3 rfl; have y0 := HSD.out.free 0; have y1 := HSD.out.free 1; have y2 := HSD.out.free 2; have y3 := HSD.out.free 3) | (have HSD := Lib.hid (blk_afterD hb7); have q0 : w7.cell? _ = some (.int .i64 0) := HSD.out.cell 0 rfl; have q1 : w7.cell? _ = some (.slice none 0 0) := HSD.out.cell 1 rfl; have q2 : w7.cell? _ = some (.bool false) := HSD.out.cell 2 rfl; have q3 : w7.cell? _ = some (.slice none 0 0) := HSD.out.cell 3 rfl; have y0 := HSD.out.free 0; have y1 := HSD.out.free 1; have y2 := HSD.out.free 2; have y3 := HSD.out.free 3) | (have HSD := Lib.hid (Blk.below HSD.out hb7 HSD.out.lt); have q0 : w7.cell? _ = some (.int .i64 0) := HSD.out.cell 0 rfl; have q1 : w7.cell? _ = some (.slice none 0 0) := HSD.out.cell 1 rfl; have q2 : w7.cell? _ = some (.bool false) := HSD.out.cell 2 rfl; have q3 : w7.cell? _ = some (.slice none 0 0) := HSD.out.cell 3 rfl; have y0 := HSD.out.free 0; have y1 := HSD.out.free 1; have y2 := HSD.out.free 2; have y3 := HSD.out.free 3) | skip); clear hb7)
                | (go_at_call 21; go_must ((with_reducible refine Calls.mono (anys_any (.slice xa xn xc) items _ ?_ HI9.out) ?_); (repeat (first | with_reducible exact HSLA.out | with_reducible refine Sl.drew ?_ | with_reducible refine Sl.alloc ?_ _)); rintro e w6 ⟨v6, rfl, hown6, hb6⟩; have HSA : Hid (SetAt w6 s b l' (.slice none 0 0)) := Lib.hid (SetAt.below (by (repeat (first | with_reducible exact HSA.out | with_reducible refine SetAt.drew ?_ | with_reducible refine SetAt.alloc ?_ _))) hb6); have HSLA : Hid (Sl w6 (.slice xa xn xc) (i64s items)) := Lib.hid (Sl.below (by (repeat (first | with_reducible exact HSLA.out | with_reducible refine Sl.drew ?_ | with_reducible refine Sl.alloc ?_ _))) rfl hb6); have HTA : Hid (Below wA.heap.size wA w6) := Lib.hid (below_step (by (repeat (first | with_reducible exact HTA.out | with_reducible refine Below.drew ?_ | with_reducible refine Below.alloc ?_ ?_ _ | exact HTA.out.size))) hb6 (Nat.le_refl _)); have HKA : Hid (Blk w6 wr.heap.size 41 #[.int .i64 (op : Int), .slice xa xn xc]) := Lib.hid (Blk.next (by (repeat (first | with_reducible exact HKA.out | with_reducible refine Blk.drew ?_ | with_reducible refine Blk.alloc ?_ _))) hb6); have c8 : w6.cell? ⟨wr.heap.size, 1, none⟩ = some (.slice xa xn xc) := HKA.out.cell 1 rfl; (first | (have HSD := Lib.hid (blk_after hb6); have q0 : w6.cell? _ = some (.int .i64 0) := HSD.out.cell 0 rfl; have q1 : w6.cell? _ = some (.slice none 0 0) := HSD.out.cell 1 rfl; have q2 : w6.cell? _ = some (.bool false) := HSD.out.cell 2 rfl; have q3 : w6.cell? _ = some (.slice none 0 0) := HSD.out.cell 3 rfl; have y0 := HSD.out.free 0; have y1 := HSD.out.free 1; have y2 := HSD.out.free 2; have y3 := HSD.out.free 3) | (have HSD := Lib.hid (blk_afterD hb6); have q0 : w6.cell? _ = some (.int .i64 0) := HSD.out.cell 0 rfl; have q1 : w6.cell? _ = some (.slice none 0 0) := HSD.out.cell 1 rfl; have q2 : w6.cell? _ = some (.bool false) := HSD.out.cell 2 rfl; have q3 : w6.cell? _ = some (.slice none 0 0) := HSD.out.cell 3 rfl; have y0 := HSD.out.free 0; have y1 := HSD.out.free 1; have y2 := HSD.out.free 2; have y3 := HSD.out.free 3) | (have HSD := Lib.hid (Blk.below HSD.out hb6 HSD.out.lt); have q0 : w6.cell? _ = some (.int .i64 0) := HSD.out.cell 0 rfl; have q1 : w6.cell? _ = some (.slice none 0 0) := HSD.out.cell 1 rfl; have q2 : w6.cell? _ = some (.bool false) := HSD.out.cell 2 rfl; have q3 : w6.cell? _ = some (.slice none 0 0) := HSD.out.cell 3 rfl; have y0 := HSD.out.free 0; have y1 := HSD.out.free 1; have y2 := HSD.out.free 2; have y3 := HSD.out.free 3) | skip); have n6 : wA.heap.size ≤ w6.heap.size := HTA.out.size; have ne6 : ¬ wr.heap.size = w6.heap.size := (by have := HKA.out.lt; omega); have ne6b : ¬ w6.heap.size = wr.heap.size := (by have := HKA.out.lt; omega); have HV6 := Lib.hid (Sl.of_owns hown6); clear hb6 hown6))
                | (go_at_call 25; (with_reducible refine Calls.mono (slen_any s b l' (.slice none 0 0) _ ?_ HL9.out) ?_); (repeat (first | with_reducible exact HSA.out | with_reducible refine SetAt.drew ?_ | with_reducible refine SetAt.alloc ?_ _)); rintro e wL ⟨rfl, rfl⟩)))
            all_goals
              go_wp2_with fail
              go_meet
              first
                | with_reducible exact said_new HTA.out
                | with_reducible exact said_old HSD.out HTA.out n6
                | with_reducible exact said_old HSD.out HTA.out (Nat.le_refl _)
          case rest =>
            obtain ⟨sd, rfl, hsd, hsz, hbc⟩ := hcut
            obtain ⟨wB, rfl⟩ : ∃ wB, wB = wc := ⟨_, rfl⟩
            have HSB := Lib.hid (HSA.out.below hbc)
            have HSD := Lib.hid hsd
            have HKB := Lib.hid (HKA.out.next hbc)
            have HTB := Lib.hid hbc
            have HNE : Hid (sd ≠ s ∧ sd ≠ b ∧ sd ≠ wr.heap.size) := Lib.hid (by have := HSA.out.1.lt; have := HSA.out.2.1.lt; have := HZA.out; exact ⟨by omega, by omega, by omega⟩)
            have HSB2 : Hid (w.heap.size ≤ s ∧ w.heap.size ≤ b) := HSB0
            have HSDW : Hid (w.heap.size ≤ sd) := Lib.hid (by have := HBA.out.size; omega)
            have HSBK := Lib.hid (show wr.heap.size ≠ s ∧ wr.heap.size ≠ b from ⟨by have := HSl.out.1.lt; omega, by have := HSl.out.2.1.lt; omega⟩)
            have HSZ := Lib.hid hsz
            clear hsd hbc hsz
            go_wp2_with fail
            refine (sflat_any s b l' 0 0 wB HSB.out HL9.out).mono ?_
            rintro e w8 ⟨ks, pp, pc, rfl, hset8, hown8, hsame, hon8⟩
            have HS8 := Lib.hid hset8
            have HSAME := Lib.hid hsame
            have HON8 := Lib.hid hon8
            have HSD8 := Lib.hid (hon8.blk HSD.out HNE.out.1 HNE.out.2.1)
            have HK8 := Lib.hid (hon8.blk HKB.out HSBK.out.1 HSBK.out.2)
            obtain ⟨g8, rfl⟩ : ∃ g, pp = ⟨g, 0, none⟩ := by
              rcases hown8.2 with ⟨e, _⟩ | ⟨g, cp, cur, e, _⟩
              · simp at e
              · simp only [Value.slice.injEq, Option.some.injEq] at e
                exact ⟨g, e.1⟩
            obtain ⟨nk, hnk⟩ : ∃ nk, ks.length = nk := ⟨_, rfl⟩
            have hnk9 : nk ≤ 100000 := by
              have := Zs.len_same hsame.1 hset8.2.2.2 hsame.2
              have := HL9.out
              omega
            have HNK := Lib.hid hnk
            rw [hnk] at hown8 HS8 ⊢
            have HO8 := Lib.hid hown8
            have hg8 : g8 ≠ sd := by
              obtain ⟨cs, hg⟩ := owns_blk hown8 (g := g8) rfl
              intro e
              subst e
              have h2 := HSD8.out
              unfold Blk at hg h2
              rw [h2] at hg
              simp at hg
            have HG8 := Lib.hid hg8
            have HZ8 := Lib.hid (hown8.lt g8 rfl)
            clear hset8 hsame hon8 hnk hown8 hg8
            go_wp2_with fail
            refine (sflat_again s b l' ⟨g8, 0, none⟩ nk pc w8 HS8.out).mono ?_
            rintro e w' ⟨rfl, rfl⟩
            obtain ⟨wo, rfl⟩ : ∃ wo : World, wo = wr := ⟨_, rfl⟩
            obtain ⟨k0, rfl⟩ : ∃ k0 : Nat, k0 = k := ⟨_, rfl⟩
            go_wp2_with fail
            go_loopg [56] nk (fun k idx wz => FlatIn ks nk sd (l'.length : Int) (items.all fun x => decide (x ∈ l')) w8 k idx wz)
            case atStart => exact ⟨0, none, 0, rfl, by omega, HSD8.out, by simpa [i64s] using World.ownsRow_nil w8 w8.heap.size 3 1, only8_refl w8 _⟩
            case round =>
              obtain ⟨j, q, c, rfl, hjk, hblk, hownf, hgr⟩ := hrel
              have c1 : wr.drew.cell? ⟨sd, 1, none⟩ = some (.slice q j c) := hblk.cell 1 rfl
              have c1w : wr.cell? ⟨sd, 1, none⟩ = some (.slice q j c) := hblk.cell 1 rfl
              have HBK := Lib.hid hblk
              have HOF := Lib.hid hownf
              have HGR := Lib.hid hgr
              clear hblk hownf hgr
              by_cases hj : j < nk
              · cases gk with
                | zero => omega
                | succ k =>
                  have hjl : j < ks.length := by rw [HNK.out]; exact hj
                  have h1 := HO8.out.cells (g := g8) rfl j _ (ifs_at ks j hjl)
                  rw [addr_add, Nat.zero_add] at h1
                  have h2 : wr.cell? ⟨g8, j, none⟩ = some (.iface 3 (.int .i64 (ks.getD j 0))) := by
                    rw [← h1]
                    exact World.cell?_of_block (HGR.out.block g8 HZ8.out.2 (fun e => HG8.out (by injection e)))
                  have hs := take_getD ks j hjl
                  obtain ⟨X, hX⟩ : ∃ X, ks.getD j 0 = X := ⟨_, rfl⟩
                  rw [hX] at h2 hs
                  have HTK := Lib.hid hs
                  have hmx : j + ([Value.int .i64 X] : List Value).length ≤ maxLen := by unfold maxLen; simp; omega
                  have hmy : (j + ([Value.int .i64 X] : List Value).length) * 8 ≤ 140737488355328 := by simp; omega
                  have hmz : w8.heap.size ≤ wr.heap.size := HGR.out.size
                  have hta := assert_int X
                  have HMX := Lib.hid hmx
                  have HMY := Lib.hid hmy
                  have hlt : sd < wr.heap.size := HBK.out.lt
                  clear hjl h1 hs hX hmx hmy
                  go_wp2_with fail
                  go_region_law
                    ((refine step_apSl (by rfl) (.tmp 61) (.tmp 64) 35 35 (by rfl) w8.heap.size 3 3 (.int .i64 0) 8 Try.underlying35 Try.underlying35 info_int rfl (.slice q j c) j (i64s (ks.take j)) (by rfl) ?_ _ [Value.int .i64 X] (by rfl) ?_ (by simp [Value.oneCell']) HMX.out HMY.out ?_ ?_; (repeat (first | with_reducible exact HOF.out | with_reducible refine World.ownsRow.alloc ?_ _ | with_reducible refine row_drew ?_)); (first | exact sl_new _ _ _ | exact sl_newD _ _ _); (first | exact hmz | (simp; omega)); intro p9 m9 c9 w9 hown9 hg9 hb9; have HG9 := Lib.hid hg9; have HO9 := Lib.hid hown9; have HBK9 : Hid (Blk w9 sd 45 #[.int .i64 (l'.length : Int), .slice q j c, .bool (items.all fun x => decide (x ∈ l')), .slice none 0 0]) := Lib.hid (Blk.grown (by (repeat (first | with_reducible exact HBK.out | with_reducible refine Blk.drew ?_ | with_reducible refine Blk.alloc ?_ _))) hg9 (by rcases row_not HOF.out HBK.out (by decide) with h | h; rw [h]; simp; exact h)); have c1 : w9.cell? ⟨sd, 1, none⟩ = some (.slice q j c) := HBK9.out.cell 1 rfl; have f1 := HBK9.out.free 1; clear hg9 hown9 hb9))
                  all_goals
                    go_wp2_with fail
                    go_roundg k
                    case measure => omega
                    case rel =>
                      have hm : m9 = j + 1 := by have := own_len HO9.out; simpa using this
                      subst hm
                      refine ⟨j + 1, p9, c9, by go_num, by omega, ?_, ?_, ?_⟩
                      · simpa using HBK9.out.set 1 (.slice p9 (j + 1) c9)
                      · rw [HTK.out, i64s_app]
                        refine HO9.out.kept (gb_store (gb_refl w9 (some sd)) (.inl rfl) _) (row_not HO9.out HBK9.out (by decide))
                      · refine gb_store (gb_step (by (repeat (first | with_reducible exact HGR.out | with_reducible refine gb_drew ?_ | with_reducible refine gb_alloc ?_ _))) HG9.out (fun k hk => .inr (HOF.out.lt k hk).1)) (.inl rfl) _
              · obtain ⟨J, hJ⟩ : ∃ J, J = nk := ⟨_, rfl⟩
                obtain rfl : j = J := by omega
                subst hJ
                have hdj : decide ((j : Int) < (j : Int)) = false := by simp
                have c0s : True := trivial
                obtain ⟨w10, rfl⟩ : ∃ w10 : World, w10 = wr := ⟨_, rfl⟩
                have hk10 := HK8.out.grown HGR.out (fun e => HNE.out.2.2 (by injection e))
                have c8w : w10.cell? ⟨wo.heap.size, 1, none⟩ = some (.slice xa xn xc) := hk10.cell 1 rfl
                have HS10 := Lib.hid (HS8.out.grown HGR.out (fun e => HNE.out.1 (by injection e)) (fun e => HNE.out.2.1 (by injection e)))
                have HB10 : Hid (Below w.heap.size w w10) := Lib.hid (by
                  have hA := HBA.out
                  have hB := hA.trans (HTB.out.mono hA.size)
                  have h8 := hB.trans (HON8.out.below HSB2.out.1 HSB2.out.2 hB.size)
                  refine h8.trans ⟨HGR.out.os, HGR.out.tape, HGR.out.output, HGR.out.size, fun k hk => HGR.out.block k (Nat.lt_of_lt_of_le hk h8.size) (fun e => ?_)⟩
                  have := HSDW.out
                  injection e with e
                  omega)
                obtain ⟨fv, hfv⟩ : ∃ fv, fv = Value.slice q j c := ⟨_, rfl⟩
                have HFV := Lib.hid hfv
                rw [← hfv] at HBK HOF
                clear c1 c1w hk10 hfv hdj hj hjk
                go_wp2_with fail
                go_loopg [71] xn (fun k idx wz => ExIn xn sd (l'.length : Int) fv (items.all fun x => decide (x ∈ l')) w10 k idx wz)
                case atStart => exact ⟨0, none, 0, [], rfl, by omega, HBK.out, World.ownsRow_nil _ _ _ _, only8_refl _ _⟩
                case round =>
                  obtain ⟨m, q2, c2, bl, rfl, hmk, hblk, howne, hgre⟩ := hrel
                  have HBE := Lib.hid hblk
                  have HOE := Lib.hid howne
                  have HGE := Lib.hid hgre
                  have HSE := Lib.hid (HS10.out.grown hgre (fun e => HNE.out.1 (by injection e)) (fun e => HNE.out.2.1 (by injection e)))
                  have d1 : wr.drew.cell? ⟨sd, 3, none⟩ = some (.slice q2 m c2) := hblk.cell 3 rfl
                  have d1w : wr.cell? ⟨sd, 3, none⟩ = some (.slice q2 m c2) := hblk.cell 3 rfl
                  have f3w := hblk.free 3
                  have hlt : sd < wr.heap.size := hblk.lt
                  have hmz : w10.heap.size ≤ wr.heap.size := hgre.size
                  have HBZ : Hid (Below w.heap.size w wr) := Lib.hid (HB10.out.trans ⟨hgre.os, hgre.tape, hgre.output, hgre.size, fun k hk => hgre.block k (Nat.lt_of_lt_of_le hk HB10.out.size) (fun e => (by have := HSDW.out; injection e with e; omega))⟩)
                  clear hblk howne hgre
                  by_cases hm : m < xn
                  · cases gk with
                    | zero => omega
                    | succ k =>
                      obtain ⟨_, _, _, e, y1, y2, y3, hr⟩ := HSL0.out
                      cases e
                      obtain ⟨bx, ox, rfl, hcell⟩ := hr (by omega)
                      have h1 := hcell m _ (i64s_at items m (by rw [← HXN.out]; exact hm))
                      rw [← HBZ.out.cell (World.block_lt_of_cell? w _ h1)] at h1
                      obtain ⟨X, hX⟩ : ∃ X, items.getD m 0 = X := ⟨_, rfl⟩
                      rw [hX] at h1
                      have hmx : m + ([Value.bool true] : List Value).length ≤ maxLen := by unfold maxLen; simp; omega
                      have hmy : (m + ([Value.bool true] : List Value).length) * 1 ≤ 140737488355328 := by simp; omega
                      have HMX := Lib.hid hmx
                      have HMY := Lib.hid hmy
                      clear y1 y2 y3 hr hcell hX hmx hmy
                      go_wp2_with fail
                      go_region_law
                        ((first
                          | (refine step_call2 (by rfl) 28 (.tmp 77) (.tmp 79) #[59, 20] (by rfl) exists_enter _ _ (by rfl) (by rfl) (sexists_any s b l' (.slice (some ⟨g8, 0, none⟩) j pc) X _ ?_) ?_; (repeat (first | with_reducible exact HSE.out | with_reducible refine SetAt.drew ?_ | with_reducible refine SetAt.alloc ?_ _)); rintro e wE ⟨rfl, hbE⟩; refine ⟨_, rfl, ?_⟩; have HBE2 : Hid (Blk wE sd 45 #[.int .i64 (l'.length : Int), fv, .bool (items.all fun x => decide (x ∈ l')), .slice q2 m c2]) := Lib.hid (Blk.next (by (repeat (first | with_reducible exact HBE.out | with_reducible refine Blk.drew ?_ | with_reducible refine Blk.alloc ?_ _))) hbE); have HOE2 : Hid (wE.ownsRow w10.heap.size 4 1 (.slice q2 m c2) m (bls bl)) := Lib.hid (row_below (by (repeat (first | with_reducible exact HOE.out | with_reducible refine World.ownsRow.alloc ?_ _ | with_reducible refine row_drew ?_))) hbE); have HGE2 : Hid (w10.grownBy wE (some sd)) := Lib.hid (gb_below (by (repeat (first | with_reducible exact HGE.out | with_reducible refine gb_drew ?_ | with_reducible refine gb_alloc ?_ _))) hbE); have d1e : wE.cell? ⟨sd, 3, none⟩ = some (.slice q2 m c2) := HBE2.out.cell 3 rfl; have f3e := HBE2.out.free 3; have hzE : w10.heap.size ≤ wE.heap.size := HGE2.out.size; have hltE : sd < wE.heap.size := HBE2.out.lt; clear hbE)
                          | (refine step_apSl (by rfl) (.tmp 76) (.tmp 81) 43 43 (by rfl) w10.heap.size 4 4 (.bool false) 1 Try.underlying43 Try.underlying43 info_bool2 rfl (.slice q2 m c2) m (bls bl) (by rfl) ?_ _ [Value.bool (decide (X ∈ l'))] (by rfl) ?_ (by simp [Value.oneCell']) HMX.out HMY.out ?_ ?_; (repeat (first | with_reducible exact HOE2.out | with_reducible refine World.ownsRow.alloc ?_ _ | with_reducible refine row_drew ?_)); (first | exact sl_new _ _ _ | exact sl_newD _ _ _); (first | exact hzE | (simp; omega)); intro p9 m9 c9 w9 hown9 hg9 hb9; have HG9 := Lib.hid hg9; have HO9 := Lib.hid hown9; have HBK9 : Hid (Blk w9 sd 45 #[.int .i64 (l'.length : Int), fv, .bool (items.all fun x => decide (x ∈ l')), .slice q2 m c2]) := Lib.hid (Blk.grown (by (repeat (first | with_reducible exact HBE2.out | with_reducible refine Blk.drew ?_ | with_reducible refine Blk.alloc ?_ _))) hg9 (by rcases row_not HOE2.out HBE2.out (by decide) with h | h; rw [h]; simp; exact h)); have c1 : w9.cell? ⟨sd, 3, none⟩ = some (.slice q2 m c2) := HBK9.out.cell 3 rfl; have f1 := HBK9.out.free 3; clear hg9 hown9 hb9)))
                      all_goals
                        go_wp2_with fail
                        go_roundg k
                        case measure => omega
                        case rel =>
                          have hm : m9 = m + 1 := by have := own_len HO9.out; simpa using this
                          subst hm
                          refine ⟨m + 1, p9, c9, bl ++ [decide (X ∈ l')], by go_num, by omega, ?_, ?_, ?_⟩
                          · simpa using HBK9.out.set 3 (.slice p9 (m + 1) c9)
                          · have e : bls (bl ++ [decide (X ∈ l')]) = bls bl ++ [Value.bool (decide (X ∈ l'))] := by simp [bls]
                            rw [e]
                            refine HO9.out.kept (gb_store (gb_refl w9 (some sd)) (.inl rfl) _) (row_not HO9.out HBK9.out (by decide))
                          · refine gb_store (gb_step (by (repeat (first | with_reducible exact HGE2.out | with_reducible refine gb_drew ?_ | with_reducible refine gb_alloc ?_ _))) HG9.out (fun k hk => .inr (HOE2.out.lt k hk).1)) (.inl rfl) _
                  · obtain ⟨M, hM⟩ : ∃ M, M = xn := ⟨_, rfl⟩
                    obtain rfl : m = M := by omega
                    subst hM
                    have hdm : decide ((m : Int) < (m : Int)) = false := by simp
                    have g0 : wr.cell? ⟨sd, 0, none⟩ = some (.int .i64 (l'.length : Int)) := HBE.out.cell 0 rfl
                    have g1 : wr.cell? ⟨sd, 1, none⟩ = some fv := HBE.out.cell 1 rfl
                    have g2 : wr.cell? ⟨sd, 2, none⟩ = some (.bool (items.all fun x => decide (x ∈ l'))) := HBE.out.cell 2 rfl
                    have hzo : wo.heap.size ≤ wA.heap.size := by have := HZA.out; omega
                    have HSDO : Hid (wo.heap.size ≤ sd) := Lib.hid (by have := HSZ.out; omega)
                    have HONR : Hid (Only2 s b wo wr) := Lib.hid (by
                      have h1 := ((Only2.of_below HB5.out).trans HOA.out).trans (Only2.of_below HTB.out)
                      have h2 := h1.trans HON8.out
                      have h3 := h2.step HGR.out (fun k e => .inr (.inr (by have := HSDO.out; injection e with e; omega)))
                      exact h3.step HGE.out (fun k e => .inr (.inr (by have := HSDO.out; injection e with e; omega))))
                    have HOUT : Hid (wr.ownsRow w2.heap.size 45 4 (.slice p i cap) i rows.flatten) := Lib.hid (HONR.out.owns HO.out (fun k hk => ⟨by rcases row_not HO.out HSl.out.1 (by decide) with h | h; rw [h] at hk; cases hk; intro e; subst e; exact h hk, row_notmap HO.out HSl.out.2.1 k hk⟩))
                    obtain ⟨fv0, hfv0⟩ : ∃ fv0, fv0 = fv := ⟨_, rfl⟩
                    have hone : ∀ u ∈ (#[.int .i64 (l'.length : Int), fv, .bool (items.all fun x => decide (x ∈ l')), .slice q2 m c2] : Array Value).toList, u.oneCell' = true := by
                      intro u hu
                      rw [HFV.out] at hu
                      simp at hu
                      rcases hu with rfl | rfl | rfl | rfl <;> rfl
                    have HONE := Lib.hid hone
                    have hmxi : i + 1 ≤ maxLen := by unfold maxLen; omega
                    have hzz2 : w2.heap.size ≤ wr.heap.size := by have := HONR.out.size; omega
                    have hfvc : ∃ a1 a2 a3, fv = .slice a1 a2 a3 := ⟨_, _, _, HFV.out⟩
                    clear hone hfv0
                    obtain ⟨L', hL'⟩ : ∃ L', L' = ((l'.length : Nat) : Int) := ⟨_, rfl⟩
                    have HLL := Lib.hid hL'
                    rw [← hL'] at g0 HONE
                    obtain ⟨AL, hAL⟩ : ∃ AL, AL = (items.all fun x => decide (x ∈ l')) := ⟨_, rfl⟩
                    have HAL := Lib.hid hAL
                    rw [← hAL] at g2 HONE
                    have hHFV := HFV.out
                    clear hL' hAL
                    subst hHFV
                    go_wp2_with (at_builtin; refine wpList_appendS rfl _ _ 38 rfl w2.heap.size 4 45 (.agg #[.int .i64 0, .slice none 0 0, .bool false, .slice none 0 0]) 64 Try.underlying38 info_said rfl (by decide) _ i rows.flatten rfl HOUT.out #[.int .i64 L', .slice q j c, .bool AL, .slice q2 m c2] rfl rfl HONE.out hmxi (by omega) hzz2 ?_; intro g11 cap11 w11 hown11 hg11 hb11)
                    go_roundg k0
                    case measure => omega
                    case rel =>
                      have houtb := HOUT.out
                      have hns : (Value.slice p i cap).ownBlock ≠ some s := by
                        intro e
                        rcases row_not HOUT.out HSE.out.1 (by decide) with h | h
                        · rw [h] at e; cases e
                        · exact h e
                      have hnb : (Value.slice p i cap).ownBlock ≠ some b := fun e => row_notmap HOUT.out HSE.out.2.1 b e rfl
                      have hkeep : ∀ {fv : Value} {nn : Nat} {ys : List Value}, wr.ownsRow w2.heap.size 3 1 fv nn ys → w11.ownsRow w2.heap.size 3 1 fv nn ys := fun h => h.kept hg11 (row_apart h HOUT.out (by decide))
                      refine ⟨i + 1, some ⟨g11, 0, none⟩, cap11, rows ++ [[.int .i64 L', .slice q j c, .bool AL, .slice q2 m c2]], .slice (some ⟨g8, 0, none⟩) j pc, rfl, by go_num, by omega, ?_, ?_, by simp [HRL.out], ?_, ?_, HBZ.out.trans (hb11.mono (by have := HT2.out.size; omega)), Nat.le_trans hzz2 hb11.size⟩
                      · simpa using hown11
                      · intro r hr
                        rcases List.mem_append.1 hr with h | h
                        · exact HR4.out r h
                        · obtain rfl : r = _ := by simpa using h
                          rfl
                      · rw [HLl'.out]
                        exact HSE.out.grown hg11 hns hnb
                      · intro t x row ht hx hrow
                        by_cases hti : t < i
                        · rw [List.getElem?_append_left (by rw [HRL.out]; exact hti)] at hrow
                          obtain ⟨fq2, eq2, fn2, fc2, en2, ec2, ks2, e1, e2, e3⟩ := HSAID.out t x row hti hx hrow
                          refine ⟨fq2, eq2, fn2, fc2, en2, ec2, ks2, e1, hkeep (HONR.out.owns e2 (fun k hk => ⟨fun e => ?_, row_notmap e2 HSl.out.2.1 k hk⟩)), e3⟩
                          rcases row_not e2 HSl.out.1 (by decide) with h | h
                          · rw [h] at hk; cases hk
                          · rw [hk, e] at h; exact h rfl
                        · obtain rfl : t = i := by omega
                          rw [List.getElem?_append_right (by rw [HRL.out]; exact Nat.le_refl _), HRL.out, Nat.sub_self] at hrow
                          have hrow2 : row = [.int .i64 L', .slice q j c, .bool AL, .slice q2 m c2] := by simpa using hrow.symm
                          have hxx := HXE.out
                          rw [hx] at hxx
                          injection hxx with hxx
                          subst hxx
                          have hks := HOF.out
                          rw [List.take_of_length_le (by rw [HNK.out]; exact Nat.le_refl _)] at hks
                          have hz8 : w2.heap.size ≤ w8.heap.size := by
                            have h1 := HON8.out.size
                            have h2 := HTB.out.size
                            omega
                          refine ⟨q, q2, j, c, m, c2, ks, ?_, ?_, ?_⟩
                          · rw [hrow2, HLl'.out, HLL.out, HAL.out]
                          · rw [HNK.out]
                            refine hkeep ((row_weaken hks hz8).kept HGE.out (row_not hks HBK.out (by decide)))
                          · rw [HLl'.out]
                            exact HSAME.out
    · obtain ⟨I, hI⟩ : ∃ I, I = n := ⟨_, rfl⟩
      obtain rfl : i = I := by omega
      subst hI
      have hdi : decide ((i : Int) < (i : Int)) = false := by simp
      go_wp2_with fail
      go_ret
      exact ⟨_, rows, w2.heap.size, s, b, rfl, Rw.of_owns HR4.out (by omega) HO.out, HRL.out, fun j x row hx hrow => HSAID.out j x row (by have := (List.getElem?_eq_some_iff.1 hrow).1; rw [HRL.out] at this; exact this) hx hrow, HB.out⟩
end Go.Proofs.Ytdmkijdokmnicaa
