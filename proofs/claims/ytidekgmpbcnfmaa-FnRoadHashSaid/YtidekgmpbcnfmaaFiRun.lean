/- impl.FIRun. -/
import Derived.Test.YtidekgmpbcnfmaaFiOps
import Derived.Deep.CutRange
import Derived.Deep.CutBlock
import Derived.Deep.DeepCutAuto
namespace Go.Proofs.Ytidekgmpbcnfmaa
set_option linter.unusedVariables false
open Go.RowKit

/-- a step: what to do, key, value -/
structure FStep where
  op : Int
  key : Int
  val : Int
abbrev FMap := List (Int × Value)
def stepRow (x : FStep) : List Value := [.int .i64 x.op, .int .u64 x.key, .int .u64 x.val]
/-- what is held, and what is counted, behind a step -/
def fiNext (s : FMap × Nat) (x : FStep) : FMap × Nat :=
  if x.op = 1 then (Vm.put x.key (.int .u64 x.val) s.1, s.2 + 1)
  else if x.op = 4 then (Vm.del x.key s.1, if (Vm.get x.key s.1).isSome then s.2 - 1 else s.2)
  else s
def fiSt (xs : List FStep) : FMap × Nat := xs.foldl fiNext ([], 0)
theorem fiSt_snoc (xs : List FStep) (x : FStep) : fiSt (xs ++ [x]) = fiNext (fiSt xs) x := by unfold fiSt; rw [List.foldl_append]; rfl
def valOf : Option Value → Int
  | some (.int _ v) => v
  | _ => 0
/-- what a step may answer -/
def fiAns (s : FMap × Nat) (x : FStep) (a : Int × Bool) : Prop :=
  if x.op = 2 then a.1 = valOf (Vm.get x.key s.1) ∧ a.2 = (Vm.get x.key s.1).isSome
  else if x.op = 3 then a.1 = 0 ∧ a.2 = (Vm.get x.key s.1).isSome
  else if x.op = 5 then a.1 = (s.2 : Int) ∧ a.2 = false
  else if x.op = 6 then (s.2 : Int) ≤ a.1 ∧ a.2 = false
  else a.1 = 0 ∧ a.2 = false
def ansRow (a : Int × Bool) : List Value := [.int .u64 a.1, .bool a.2]

/-- the map in block s holds L and counts c -/
def FiAt (w : World) (F : Int → Nat) (Z s : Nat) (st : FMap × Nat) : Prop :=
  ∃ g m j T, MapAt w F Z s g m j st.2 T ∧ (∀ k v, Kv T k v ↔ Vm.get k st.1 = some (.int .u64 v)) ∧ (∀ k u, Vm.get k st.1 = some u → ∃ v, u = .int .u64 v) ∧ (Vm.keys st.1).Nodup
theorem FiAt.below {w w' : World} {F : Int → Nat} {Z s : Nat} {st : FMap × Nat} (h : FiAt w F Z s st) (hb : Below w.heap.size w w') : FiAt w' F Z s st := by
  obtain ⟨g, m, j, T, h1, h2⟩ := h
  exact ⟨g, m, j, T, h1.below hb, h2⟩
theorem FiAt.zs {w : World} {F : Int → Nat} {Z s : Nat} {st : FMap × Nat} (h : FiAt w F Z s st) : Z ≤ s := by obtain ⟨g, m, j, T, h1, h2⟩ := h; exact h1.zs
theorem look_get {T : Fi.Tb} {L : FMap} {k : Int} {o : Option Int} (h : ∀ k v, Kv T k v ↔ Vm.get k L = some (.int .u64 v)) (hi : ∀ k u, Vm.get k L = some u → ∃ v, u = .int .u64 v) (hl : Look T k o) : Vm.get k L = o.map (Value.int .u64) := by
  cases o with
  | none =>
    cases hg : Vm.get k L with
    | none => rfl
    | some u =>
      obtain ⟨v, rfl⟩ := hi k u hg
      obtain ⟨b, hb⟩ := (h k v).2 hg
      exact absurd hb (hl b v)
  | some v =>
    obtain ⟨b, hb⟩ := hl
    exact (h k v).1 ⟨b, hb⟩

theorem info_ans : (Try.prog.info? 49).map (fun i => (i.zero, i.size, i.bytes)) = some (some (.agg #[.int .u64 0, .bool false]), 2, 16) := by kernel_rfl

/-- behind a step's own call: the map has turned, the answer lies in its box -/
def FiCut (F : Int → Nat) (Z s A : Nat) (st : FMap × Nat) (x : FStep) (w0 w : World) (wx : World) : Prop :=
  ∃ a : Int × Bool, FiAt wx F Z s (fiNext st x) ∧ Blk wx A 49 #[.int .u64 a.1, .bool a.2] ∧ fiAns st x a ∧ KeepY s w wx ∧ Below Z w0 wx
theorem KeepY.row {s : Nat} {w w' : World} (h : KeepY s w w') {B : Nat} {e : TypeId} {size : Nat} {v : Value} {n : Nat} {xs : List Value} (ho : w.ownsRow B e size v n xs) (hs : v.ownBlock ≠ some s) (h1 : e ≠ 85) (h2 : e ≠ 87) : w'.ownsRow B e size v n xs := by
  refine ⟨ho.1, ?_⟩
  rcases ho.2 with h0 | ⟨g, cap, cur, rfl, h3, h4, h5⟩
  · exact .inl h0
  · exact .inr ⟨g, cap, cur, rfl, h3, h.2 g _ _ _ (fun e => hs (by rw [← e]; rfl)) h1 h2 h4, h5⟩
theorem frow_blk {w : World} {B : Nat} {e : TypeId} {size : Nat} {v : Value} {n : Nat} {xs : List Value} (h : w.ownsRow B e size v n xs) {s : Nat} {t : TypeId} {cs : Array Value} (hs : Blk w s t cs) (he : e ≠ t) : v.ownBlock ≠ some s := by
  rcases h.2 with ⟨rfl, _⟩ | ⟨g, cap, cur, rfl, _, hh, _⟩
  · simp [Value.ownBlock]
  · intro e1
    simp [Value.ownBlock] at e1
    subst e1
    unfold Blk at hs
    rw [hs] at hh
    injection hh with hh
    injection hh with _ hh
    exact he hh.symm
theorem KeepY.new {s A o : Nat} {w w1 : World} (h : KeepY s w w1) (hA : w.heap.size ≤ A) (u : Value) : KeepY s w (w1.setCell ⟨A, o, none⟩ u) :=
  ⟨by simpa using h.1, fun k c t fr h1 h2 h3 hc => (Below.heap_setCell w1 ⟨A, o, none⟩ u k (fun e => by
    have := (Array.getElem?_eq_some_iff.1 hc).1
    simp only at e
    omega)).trans (h.2 k c t fr h1 h2 h3 hc)⟩
theorem FiAt.blk {w : World} {F : Int → Nat} {Z s : Nat} {st : FMap × Nat} (h : FiAt w F Z s st) : ∃ cs, Blk w s 82 cs := by
  obtain ⟨g, m, j, T, h1, h2⟩ := h
  exact ⟨_, h1.blk⟩
theorem KeepY.blk {s : Nat} {w w' : World} (h : KeepY s w w') {b : Nat} {t : TypeId} {cs : Array Value} (hb : Blk w b t cs) (hs : b ≠ s) (h1 : t ≠ 85) (h2 : t ≠ 87) : Blk w' b t cs := h.2 _ _ _ _ hs h1 h2 hb
theorem FiAt.grown {w w' : World} {F : Int → Nat} {Z s : Nat} {st : FMap × Nat} (h : FiAt w F Z s st) {B : Nat} {e : TypeId} {size : Nat} {v : Value} {n : Nat} {xs : List Value} (ho : w.ownsRow B e size v n xs) (h1 : e ≠ 82) (h2 : e ≠ 85) (h3 : e ≠ 87) (hg : w.grownBy w' v.ownBlock) : FiAt w' F Z s st := by
  obtain ⟨g, m, j, T, hM, hr⟩ := h
  refine ⟨g, m, j, T, ⟨hM.blk.grown hg (frow_blk ho hM.blk h1), ⟨?_, fun e he => ⟨(hM.tab.pk e he).1.grown hg (frow_blk ho (hM.tab.pk e he).1 h3), (hM.tab.pk e he).2⟩⟩, hM.ok, hM.hm, hM.hj, hM.occ, hM.full, hM.zs⟩, hr⟩
  obtain ⟨c, hgb⟩ := hM.tab.rowBlk
  have hne := frow_blk ho (s := g) (t := 85) (cs := c) hgb h2
  exact hM.tab.row.kept hg (.inr (by simp only [Value.ownBlock, Option.map_some]; exact fun e => hne e.symm))
/-- the map behind a store in a box of another type -/
theorem FiAt.store {w : World} {F : Int → Nat} {Z s : Nat} {st : FMap × Nat} (h : FiAt w F Z s st) {A o : Nat} {cs : Array Value} (hA : Blk w A 49 cs) (u : Value) : FiAt (w.setCell ⟨A, o, none⟩ u) F Z s st := by
  obtain ⟨g, m, j, T, h1, h2⟩ := h
  have ne : ∀ {b : Nat} {t : TypeId} {c : Array Value}, Blk w b t c → t ≠ 49 → b ≠ A := by
    rintro b t c hb ht rfl
    unfold Blk at hb hA
    rw [hb] at hA
    injection hA with hA
    injection hA with _ hA
    exact ht hA
  refine ⟨g, m, j, T, ⟨h1.blk.other (ne h1.blk (by decide)) _, ⟨?_, fun e he => ⟨(h1.tab.pk e he).1.other (ne (h1.tab.pk e he).1 (by decide)) _, (h1.tab.pk e he).2⟩⟩, h1.ok, h1.hm, h1.hj, h1.occ, h1.full, h1.zs⟩, h2⟩
  have hg := h1.tab.rowBlk
  obtain ⟨c, hg⟩ := hg
  have hne : g ≠ A := ne (b := g) (t := 85) (c := c) hg (by decide)
  exact h1.tab.row.kept (row := some A) ⟨rfl, rfl, rfl, by simp, fun k _ hk => Below.heap_setCell w _ _ k (fun e => hk (by rw [e]))⟩ (.inr (by simp [Value.ownBlock]; exact hne))

def fstepAt (xs : List FStep) (i : Nat) : FStep := xs.getD i ⟨0, 0, 0⟩
theorem fi_take (xs : List FStep) (i : Nat) (h : i < xs.length) : fiSt (xs.take (i + 1)) = fiNext (fiSt (xs.take i)) (fstepAt xs i) := by
  rw [List.take_succ_eq_append_getElem h, fiSt_snoc]
  simp [fstepAt, h]
theorem steprow_at (xs : List FStep) (i : Nat) (h : i < xs.length) : (xs.map stepRow)[i]? = some (stepRow (fstepAt xs i)) := by
  simp [fstepAt, h]

def RunLoop (F : Int → Nat) (xs : List FStep) (n s Z : Nat) (w : World) (k : Nat) (out idx : Value) (wr : World) : Prop :=
  ∃ (i : Nat) (p : Option Addr) (cap : Nat) (ans : List (Int × Bool)), out = .slice p i cap ∧ idx = .int .i64 (i : Int) ∧ i + k = n ∧ wr.ownsRow Z 49 2 (.slice p i cap) i ((ans.map ansRow).flatten) ∧ ans.length = i ∧
    FiAt wr F Z s (fiSt (xs.take i)) ∧ (∀ j a, ans[j]? = some a → fiAns (fiSt (xs.take j)) (fstepAt xs j) a) ∧ Below Z w wr
def RunPost (xs : List FStep) (n : Nat) (w : World) (e : Ending) (w' : World) : Prop :=
  ∃ (v' : Value) (ans : List (Int × Bool)), e = .returned v' ∧ Rw 2 w' v' (ans.map ansRow) ∧ ans.length = n ∧ (∀ j a, ans[j]? = some a → fiAns (fiSt (xs.take j)) (fstepAt xs j) a) ∧ Below w.heap.size w w'

set_option maxRecDepth 100000 in
set_option maxHeartbeats 8000000 in
theorem firun_any (F : Int → Nat) (hF : HomeIs F) (hint : Nat) (u : Value) (xs : List FStep) (n : Nat) (w : World) (hh : hint ≤ 601) (hu : Rw 3 w u (xs.map stepRow)) (hn : xs.length = n) (hn9 : n ≤ 2000) (hop : ∀ x ∈ xs, x.op = 1 ∨ x.op = 2 ∨ x.op = 3 ∨ x.op = 4 ∨ x.op = 5 ∨ x.op = 6)
    (hcnt : ∀ j, j ≤ n → (fiSt (xs.take j)).2 ≤ 300) :
    Calls Try.prog 12 #[.int .u64 (hint : Int), u] w (RunPost xs n w) := by
  obtain ⟨ua, un, uc, rfl, hul, huc, hum, hur⟩ := hu
  rw [List.length_map, hn] at hul
  subst hul
  have HUR := Lib.hid hur
  have HOP := Lib.hid hop
  have HN := Lib.hid hn
  have HCNT := Lib.hid hcnt
  clear hur hop hn hcnt huc hum
  go_enter Try.func12, Try.ntmps12
  go_wp2_with fail
  refine (mnew_any F hint w hh).mono ?_
  rintro e w1 ⟨s, g, m, j, T, rfl, hM, hno, hb⟩
  have hat : FiAt w1 F w.heap.size s (fiSt (xs.take 0)) := ⟨g, m, j, T, hM, fun k v => ⟨fun h => absurd h (hno k v), fun h => by simp [fiSt, Vm.get] at h⟩, fun k u h => by simp [fiSt, Vm.get] at h, by simp [fiSt, Vm.keys]⟩
  have HAT := Lib.hid hat
  have HB := Lib.hid hb
  clear hM hno hat hb
  go_wp2_with fail
  go_loopg [6, 14] n (fun k out idx wr => RunLoop F xs n s w.heap.size w k out idx wr)
  case atStart => exact ⟨0, none, 0, [], rfl, rfl, by omega, World.ownsRow_nil _ _ _ _, rfl, HAT.out, by simp, HB.out⟩
  case round =>
    obtain ⟨i, p, cap0, ans, rfl, rfl, hik, hown, hal, hat, hans, hbl⟩ := hrel
    have HO := Lib.hid hown
    have HAL := Lib.hid hal
    have HA := Lib.hid hat
    have HANS := Lib.hid hans
    have HBL := Lib.hid hbl
    have hsz := hbl.size
    clear hown hal hat hans
    by_cases hi : i < n
    · cases gk with
      | zero => omega
      | succ k =>
        obtain ⟨b1, o1, rfl, hcell⟩ := HUR.out (by omega)
        have hil : i < xs.length := by rw [HN.out]; exact hi
        have hrow := steprow_at xs i hil
        have q0 := hcell i _ hrow 0 _ rfl
        have q1 := hcell i _ hrow 1 _ rfl
        have q2 := hcell i _ hrow 2 _ rfl
        rw [← hbl.cell (World.block_lt_of_cell? w _ q0)] at q0
        rw [← hbl.cell (World.block_lt_of_cell? w _ q1)] at q1
        rw [← hbl.cell (World.block_lt_of_cell? w _ q2)] at q2
        have htk := fi_take xs i hil
        have hopx : (fstepAt xs i).op = 1 ∨ (fstepAt xs i).op = 2 ∨ (fstepAt xs i).op = 3 ∨ (fstepAt xs i).op = 4 ∨ (fstepAt xs i).op = 5 ∨ (fstepAt xs i).op = 6 := HOP.out _ (by
          have : fstepAt xs i = xs[i] := by simp [fstepAt, hil]
          rw [this]; exact List.getElem_mem hil)
        have hc300 := HCNT.out i (by omega)
        obtain ⟨x, hx⟩ : ∃ x, fstepAt xs i = x := ⟨_, rfl⟩
        have HX := Lib.hid hx
        rw [hx] at q0 q1 q2 htk hopx
        have HTK := Lib.hid htk
        obtain ⟨op, key, val⟩ := x
        simp only at q0 q1 q2 hopx
        rw [Nat.add_zero] at q0
        rw [← Nat.add_assoc] at q1 q2
        obtain ⟨st, hst⟩ : ∃ st, fiSt (xs.take i) = st := ⟨_, rfl⟩
        have HST := Lib.hid hst
        rw [hst] at HA HTK hc300
        have HC3 := Lib.hid hc300
        clear hcell hil hrow htk hx hst hc300 hbl
        have hb0 : Below wr.heap.size wr ((wr.alloc (.cells #[.int .i64 op, .int .u64 key, .int .u64 val] 45)).alloc (.cells #[.int .u64 0, .bool false] 49)) := ((Below.refl _ _).alloc (Nat.le_refl _) _).alloc (by simp) _
        have hA0 : Blk ((wr.alloc (.cells #[.int .i64 op, .int .u64 key, .int .u64 val] 45)).alloc (.cells #[.int .u64 0, .bool false] 49)) (wr.heap.size + 1) 49 #[.int .u64 0, .bool false] := by simpa using Blk.new (wr.alloc (.cells #[.int .i64 op, .int .u64 key, .int .u64 val] 45)) 49 #[.int .u64 0, .bool false]
        have hS0 : Blk ((wr.alloc (.cells #[.int .i64 op, .int .u64 key, .int .u64 val] 45)).alloc (.cells #[.int .u64 0, .bool false] 49)) wr.heap.size 45 #[.int .i64 op, .int .u64 key, .int .u64 val] := (Blk.new wr _ _).alloc _
        have HB0 := Lib.hid hb0
        have HA0 := Lib.hid hA0
        have HS0 := Lib.hid hS0
        have HAT0 := Lib.hid (HA.out.below hb0)
        clear hb0 hA0 hS0
        go_upto_block 2 with fail
        obtain ⟨W, hW⟩ : ∃ W, W = ((wr.alloc (.cells #[.int .i64 op, .int .u64 key, .int .u64 val] 45)).alloc (.cells #[.int .u64 0, .bool false] 49)) := ⟨_, rfl⟩
        rw [← hW] at HB0 HA0 HS0 HAT0 ⊢
        clear hW
        obtain ⟨A, hA⟩ : ∃ A, A = wr.heap.size + 1 := ⟨_, rfl⟩
        rw [← hA] at HA0 ⊢
        have HAA := Lib.hid hA
        have hsA : s ≠ A := by
          obtain ⟨cs, hb⟩ := HA.out.blk
          have := hb.lt
          omega
        have HSA := Lib.hid hsA
        obtain ⟨E, hE⟩ : ∃ E, E = wr.heap.size := ⟨_, rfl⟩
        rw [← hE] at HS0 ⊢
        have HEE := Lib.hid hE
        clear hA hsA hE
        have HKY0 : Hid (KeepY s wr W ∧ Below w.heap.size w W) := Lib.hid ⟨KeepY.of (KeepX.of_below HB0.out), HBL.out.trans (HB0.out.mono hsz)⟩
        have e0 : W.cell? ⟨E, 0, none⟩ = some (.int .i64 op) := HS0.out.cell 0 rfl
        have e1 : W.cell? ⟨E, 1, none⟩ = some (.int .u64 key) := HS0.out.cell 1 rfl
        have e2 : W.cell? ⟨E, 2, none⟩ = some (.int .u64 val) := HS0.out.cell 2 rfl
        have HZW : Hid (w.heap.size ≤ W.heap.size) := Lib.hid HKY0.out.2.size
        go_cut [] (fun wx => FiCut F w.heap.size s A st ⟨op, key, val⟩ w wr wx)
        case first =>
          obtain ⟨g, m, j, T, hM, hkv, hint, hnd⟩ := HAT0.out
          have HM := Lib.hid hM
          have HKV := Lib.hid hkv
          have HINT := Lib.hid hint
          have HND := Lib.hid hnd
          have a0 : W.cell? ⟨A, 0, none⟩ = some (.int .u64 0) := HA0.out.cell 0 rfl
          have a1 : W.cell? ⟨A, 1, none⟩ = some (.bool false) := HA0.out.cell 1 rfl
          have fa0 := HA0.out.free 0
          have fa1 := HA0.out.free 1
          clear hM hkv hint hnd q0 q1 q2
          rcases hopx with rfl | rfl | rfl | rfl | rfl | rfl
          · go_wp2_with fail
            refine (mset_any F hF w.heap.size s g m j st.2 T key val W HM.out HC3.out HZW.out).mono ?_
            rintro e w2 ⟨g', m', j', T', rfl, hM', hkv', hky, hbl⟩
            have HM2 := Lib.hid hM'
            have HKV2 := Lib.hid hkv'
            have HK := Lib.hid (And.intro (HKY0.out.1.trans hky) (HKY0.out.2.trans hbl))
            have HAB := Lib.hid (hky.blk HA0.out HSA.out.symm (by decide) (by decide))
            clear hM' hkv' hky hbl
            go_wp2_with fail
            go_meet
            refine ⟨(0, false), ⟨g', m', j', T', by simpa [fiNext] using HM2.out, fun k v => ?_, fun k u hu => ?_, ?_⟩, HAB.out, by simp [fiAns], HK.out.1, HK.out.2⟩
            · rw [HKV2.out]
              simp only [fiNext, if_true]
              rw [Vm.get_put]
              by_cases hk : key = k
              · subst hk
                rw [if_pos rfl]
                constructor
                · rintro (⟨_, rfl⟩ | ⟨h, _⟩)
                  · rfl
                  · exact absurd rfl h
                · intro h
                  simp only [Option.some.injEq, Value.int.injEq, true_and] at h
                  exact .inl ⟨rfl, h.symm⟩
              · have hk2 : ¬ k = key := fun e => hk e.symm
                rw [if_neg hk, ← HKV.out]
                constructor
                · rintro (⟨h, _⟩ | ⟨_, h⟩)
                  · exact absurd h hk2
                  · exact h
                · exact fun h => .inr ⟨hk2, h⟩
            · simp only [fiNext, if_true] at hu
              rw [Vm.get_put] at hu
              by_cases hk : key = k
              · rw [if_pos hk] at hu
                injection hu with hu
                exact ⟨val, hu.symm⟩
              · rw [if_neg hk] at hu
                exact HINT.out k u hu
            · simp only [fiNext, if_true]
              exact Vm.nodup_put HND.out
          · go_wp2_with fail
            refine (mget_any F hF w.heap.size s g m j st.2 T key W HM.out).mono ?_
            rintro e w2 ⟨o, rfl, hl, rfl⟩
            have hg := look_get HKV.out HINT.out hl
            have HG := Lib.hid hg
            clear hl hg
            go_wp2_with fail
            go_meet
            have hn2 : fiNext st ⟨2, key, val⟩ = st := by simp [fiNext]
            refine ⟨(o.getD 0, o.isSome), ?_, ?_, ?_, ?_, ?_⟩
            · rw [hn2]
              exact (FiAt.store (HAT0.out) HA0.out _).store (HA0.out.set 0 _) _
            · simpa using (HA0.out.set 0 (.int .u64 (o.getD 0))).set 1 (.bool o.isSome)
            · simp only [fiAns, if_true]
              rw [HG.out]
              cases o <;> simp [valOf]
            · exact (HKY0.out.1.new (by have := HAA.out; omega) _).new (by have := HAA.out; omega) _
            · exact (HKY0.out.2.setCell (by have := HAA.out; simp only []; omega) _).setCell (by have := HAA.out; simp only []; omega) _
          · go_wp2_with fail
            refine (mexists_any F hF w.heap.size s g m j st.2 T key W HM.out).mono ?_
            rintro e w2 ⟨o, rfl, hl, rfl⟩
            have hg := look_get HKV.out HINT.out hl
            have HG := Lib.hid hg
            clear hl hg
            go_wp2_with fail
            go_meet
            have hn2 : fiNext st ⟨3, key, val⟩ = st := by simp [fiNext]
            refine ⟨(0, o.isSome), ?_, ?_, ?_, ?_, ?_⟩
            · rw [hn2]
              exact FiAt.store (HAT0.out) HA0.out _
            · simpa using HA0.out.set 1 (.bool o.isSome)
            · simp [fiAns, HG.out]
            · exact HKY0.out.1.new (by have := HAA.out; omega) _
            · exact HKY0.out.2.setCell (by have := HAA.out; simp only []; omega) _
          · go_wp2_with fail
            refine (mdelete_any F hF w.heap.size s g m j st.2 T key W HM.out HZW.out (by have := HC3.out; omega)).mono ?_
            rintro e w2 ⟨g', m', j', c', T', o, rfl, hM', hkv', hl, hcc, hky, hbl⟩
            have hg := look_get HKV.out HINT.out hl
            have HG := Lib.hid hg
            have HM2 := Lib.hid hM'
            have HKV2 := Lib.hid hkv'
            have HCC := Lib.hid hcc
            have HK := Lib.hid (And.intro (HKY0.out.1.trans hky) (HKY0.out.2.trans hbl))
            have HAB := Lib.hid (hky.blk HA0.out HSA.out.symm (by decide) (by decide))
            clear hM' hkv' hky hbl hl hg hcc
            go_wp2_with fail
            go_meet
            have hc2 : (fiNext st ⟨4, key, val⟩).2 = c' := by
              have h1 := HCC.out
              have h2 : (fiNext st ⟨4, key, val⟩).2 = if (Vm.get key st.1).isSome then st.2 - 1 else st.2 := by simp [fiNext]
              rw [h2, HG.out]
              cases o <;> simp at h1 ⊢ <;> omega
            have hl2 : (fiNext st ⟨4, key, val⟩).1 = Vm.del key st.1 := by simp [fiNext]
            refine ⟨(0, false), ⟨g', m', j', T', by rw [hc2]; exact HM2.out, fun k v => ?_, fun k u hu => ?_, ?_⟩, HAB.out, by simp [fiAns], HK.out.1, HK.out.2⟩
            · rw [HKV2.out, hl2, Vm.get_del HND.out]
              by_cases hk : key = k
              · subst hk
                rw [if_pos rfl]
                constructor
                · rintro ⟨h, _⟩; exact absurd rfl h
                · intro h; cases h
              · rw [if_neg hk, ← HKV.out]
                exact ⟨fun h => h.2, fun h => ⟨fun e => hk e.symm, h⟩⟩
            · rw [hl2, Vm.get_del HND.out] at hu
              by_cases hk : key = k
              · rw [if_pos hk] at hu; cases hu
              · rw [if_neg hk] at hu; exact HINT.out k u hu
            · rw [hl2]; exact Vm.nodup_del HND.out
          · go_wp2_with fail
            refine (mlen_any F w.heap.size s g m j st.2 T W HM.out).mono ?_
            rintro e w2 ⟨rfl, rfl⟩
            go_wp2_with fail
            go_meet
            have hn2 : fiNext st ⟨5, key, val⟩ = st := by simp [fiNext]
            refine ⟨((st.2 : Int), false), ?_, ?_, by simp [fiAns], ?_, ?_⟩
            · rw [hn2]
              exact FiAt.store (HAT0.out) HA0.out _
            · simpa using HA0.out.set 0 (.int .u64 (st.2 : Int))
            · exact HKY0.out.1.new (by have := HAA.out; omega) _
            · exact HKY0.out.2.setCell (by have := HAA.out; simp only []; omega) _
          · go_wp2_with fail
            refine (mcap_any F w.heap.size s g m j st.2 T W HM.out).mono ?_
            rintro e w2 ⟨rfl, rfl⟩
            go_wp2_with fail
            go_meet
            have hn2 : fiNext st ⟨6, key, val⟩ = st := by simp [fiNext]
            refine ⟨((m : Int), false), ?_, ?_, ?_, ?_, ?_⟩
            · rw [hn2]
              exact FiAt.store (HAT0.out) HA0.out _
            · simpa using HA0.out.set 0 (.int .u64 (m : Int))
            · simp [fiAns]
              have := HM.out.full
              omega
            · exact HKY0.out.1.new (by have := HAA.out; omega) _
            · exact HKY0.out.2.setCell (by have := HAA.out; simp only []; omega) _
        case rest =>
          obtain ⟨⟨an, ab⟩, hfa, hba, han, hky, hbl⟩ := hcut
          have hob : (Value.slice p i cap0).ownBlock ≠ some s := by
            obtain ⟨cs, hb⟩ := HA.out.blk
            exact frow_blk HO.out hb (by decide)
          have hown2 := hky.row HO.out hob (by decide) (by decide)
          have r0 : wc.cell? ⟨A, 0, none⟩ = some (.int .u64 an) := hba.cell 0 rfl
          have r1 : wc.cell? ⟨A, 1, none⟩ = some (.bool ab) := hba.cell 1 rfl
          have HFA := Lib.hid hfa
          have HAN := Lib.hid han
          have HO2 := Lib.hid hown2
          have HB2 := Lib.hid hbl
          have hszc := hbl.size
          have hmx : i + 1 ≤ maxLen := by unfold maxLen; omega
          clear hfa hba han hky hbl hown2 hob q0 q1 q2 e0 e1 e2 hopx
          go_wp2_with (at_builtin; refine wpList_appendS rfl _ _ 46 rfl w.heap.size 2 49 (.agg #[.int .u64 0, .bool false]) 16 Try.underlying46 info_ans rfl (by decide) _ i _ rfl HO2.out #[.int .u64 an, .bool ab] rfl rfl (by simp [Value.oneCell']) hmx (by omega) hszc ?_; intro g9 cap9 w9 hown9 hg9 hb9)
          go_roundg k
          case measure => omega
          case rel =>
            refine ⟨i + 1, some ⟨g9, 0, none⟩, cap9, ans ++ [(an, ab)], rfl, by go_num, by omega, ?_, by simp [HAL.out], ?_, fun j a hj => ?_, HB2.out.trans hb9⟩
            · simpa [ansRow] using hown9
            · rw [HTK.out]
              exact HFA.out.grown HO2.out (by decide) (by decide) (by decide) hg9
            · rcases Nat.lt_or_ge j i with h1 | h1
              · rw [List.getElem?_append_left (by rw [HAL.out]; exact h1)] at hj
                exact HANS.out j a hj
              · have hji : j = i := by
                  have := (List.getElem?_eq_some_iff.1 hj).1
                  simp [HAL.out] at this
                  omega
                subst hji
                rw [List.getElem?_append_right (by rw [HAL.out]; exact Nat.le_refl _), HAL.out] at hj
                simp at hj
                subst hj
                rw [HST.out, HX.out]
                exact HAN.out
    · obtain rfl : i = n := by omega
      have hd : decide ((i : Int) < (i : Int)) = false := by simp
      clear hbl
      go_wp2_with fail
      go_ret
      refine ⟨_, ans, rfl, Rw.of_owns (S := 2) (fun r hr => ?_) (by decide) HO.out, HAL.out, HANS.out, HBL.out⟩
      obtain ⟨a, _, rfl⟩ := List.mem_map.1 hr
      rfl
end Go.Proofs.Ytidekgmpbcnfmaa
