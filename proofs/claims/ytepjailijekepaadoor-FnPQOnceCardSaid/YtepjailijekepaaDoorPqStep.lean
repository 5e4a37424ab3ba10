/- Walk of impl.pqStep: putting. -/
import Derived.Test.YtepjailijekepaaDoorPqOps
import Derived.Test.YtepjailijekepaaDoorRow
namespace Go.Proofs.YtepjailijekepaaDoor
set_option linter.unusedVariables false
open Go.RowKit
open Pqm

theorem slice_new {a b : Nat} (h : a = b) : Value.slice (some ⟨a, 0, none⟩) 1 1 = .slice (some ⟨b, 0, none⟩) 1 1 := by rw [h]

/-- elements as rows of two cells -/
def pit (x : It) : List Value := [.int .i64 x.1, .int .i64 x.2]
def pits (l : List It) : List (List Value) := l.map pit
def pfl (l : List It) : List Value := (pits l).flatten
theorem pits_len (l : List It) : (pits l).length = l.length := by simp [pits]
theorem pits_at (l : List It) (i : Nat) (h : i < l.length) : (pits l)[i]? = some (pit (l.getD i dI)) := by simp [pits, h]
theorem pits_row (l : List It) : ∀ r ∈ pits l, r.length = 2 := by
  intro r hr
  obtain ⟨x, _, rfl⟩ := List.mem_map.1 hr
  rfl
theorem pfl_app (l k : List It) : pfl (l ++ k) = pfl l ++ pfl k := by simp [pfl, pits]
theorem pfl_one (x : It) : pfl [x] = pit x := by simp [pfl, pits]
theorem pfl_cells (l : List It) : ∀ u ∈ pfl l, u.oneCell' = true := by
  intro u hu
  obtain ⟨r, hr, hu⟩ := List.mem_flatten.1 hu
  obtain ⟨x, _, rfl⟩ := List.mem_map.1 hr
  simp [pit] at hu
  rcases hu with rfl | rfl <;> rfl

/-- the queue of a script: q its elements up to order -/
structure PSt (w : World) (b m : Nat) (p : Option Addr) (q : List It) (gone dup : Bool) : Prop where
  h : ∃ c L ks, Pqs w b m p c L ks gone dup ∧ Heap L ∧ L.Perm q ∧ (gone = false → KsOk dup ks q) ∧ (gone = true → q = [])

theorem PSt.below {w w' : World} {b m : Nat} {p : Option Addr} {q : List It} {gone dup : Bool} (H : PSt w b m p q gone dup) (hb : Below w.heap.size w w') : PSt w' b m p q gone dup := by
  obtain ⟨c, L, ks, h1, h2⟩ := H.h
  exact ⟨c, L, ks, h1.below hb, h2⟩
theorem PSt.lt {w : World} {b m : Nat} {p : Option Addr} {q : List It} {gone dup : Bool} (H : PSt w b m p q gone dup) : b < w.heap.size ∧ m < w.heap.size ∧ ∀ k, obk p = some k → k < w.heap.size := by
  obtain ⟨c, L, ks, h1, h2⟩ := H.h
  exact ⟨h1.q.blk.lt, h1.v.lt, (own_lt h1.q).2⟩

theorem PSt.grown {w w' : World} {b m r : Nat} {p : Option Addr} {q : List It} {gone dup : Bool} (H : PSt w b m p q gone dup) (hg : w.grownBy w' (some r)) (h1 : r ≠ b) (h2 : r ≠ m) (h3 : obk p ≠ some r) : PSt w' b m p q gone dup := by
  obtain ⟨c, L, ks, h4, h5⟩ := H.h
  exact ⟨c, L, ks, ⟨h4.q.grown hg (fun j e => by injection e with e; subst e; exact ⟨h1, h3⟩), h4.v.grown hg (fun e => h2 (by injection e)), h4.ne⟩, h5⟩
/-- a struct of four cells stored -/
theorem st4_blk {w : World} {r : Nat} {t : TypeId} {cs : Array Value} (h : Blk w r t cs) (hs : cs.size = 4) (x0 x1 x2 x3 : Value) :
    Blk ((((w.setCell ⟨r, 0, none⟩ x0).setCell ⟨r, 1, none⟩ x1).setCell ⟨r, 2, none⟩ x2).setCell ⟨r, 3, none⟩ x3) r t #[x0, x1, x2, x3] := by
  obtain ⟨l⟩ := cs
  match l, hs with
  | [a, b, c, d], _ => simpa using (((h.set 0 x0).set 1 x1).set 2 x2).set 3 x3
theorem st4_grown (w : World) (r : Nat) (x0 x1 x2 x3 : Value) : w.grownBy ((((w.setCell ⟨r, 0, none⟩ x0).setCell ⟨r, 1, none⟩ x1).setCell ⟨r, 2, none⟩ x2).setCell ⟨r, 3, none⟩ x3) (some r) :=
  gb_store (gb_store (gb_store (gb_store (gb_refl w (some r)) (.inl rfl) _) (.inl rfl) _) (.inl rfl) _) (.inl rfl) _

def ItemsLoop (n : Nat) (l : List It) (w : World) (k : Nat) (out idx : Value) (wr : World) : Prop :=
  ∃ (i : Nat) (pa : Option Addr) (ca : Nat), out = .slice pa i ca ∧ idx = .int .i64 (i : Int) ∧ i + k = n ∧ wr.ownsRow w.heap.size 64 1 (.slice pa i ca) i (itvs (l.take i)) ∧ Below w.heap.size w wr

theorem zero_psaid : (Tryd.prog.info? 33).map (fun i => (i.zero, i.size)) = some (some (.agg #[.slice none 0 0, .int .i64 0, .bool false, .int .i64 0]), 4) := by kernel_rfl

set_option maxRecDepth 100000 in
set_option maxHeartbeats 2000000 in
theorem pstep1 (a0 a1 a2 : Addr) (b m : Nat) (p : Option Addr) (q l : List It) (gone dup : Bool) (N : Int) (v : Value) (w : World) (hS : Sn w a0 a1 a2) (H : PSt w b m p q gone dup) (hv : Rw 2 w v (pits l)) (h0 : l ≠ []) (h9 : q.length + l.length ≤ 100000) :
    Calls Tryd.prog 12 #[.pointer (some ⟨b, 0, none⟩), .agg #[.int .i64 1, .int .i64 N, v]] w fun e w' => e = .returned (.agg #[.slice none 0 0, .int .i64 0, .bool false, .int .i64 (if gone then 1 else 0)]) ∧
      ∃ p', PSt w' b m p' (if gone then q else putAll dup q l) gone dup ∧ PqFr b m (obk p) (obk p') w w' := by
  obtain ⟨a, n, cap, rfl, hla, hc, hmx, hr⟩ := hv
  rw [pits_len] at hla
  have hn9 : n ≤ 100000 := by omega
  have HL := Lib.hid hla
  have HH := Lib.hid H
  have HS := Lib.hid hS
  have H9 := Lib.hid h9
  have H0 := Lib.hid h0
  clear hla H hS h9 h0
  go_enter Tryd.func12, Tryd.ntmps12
  go_wp2_with fail
  have hW : Below w.heap.size w ((w.alloc (.cells #[.int .i64 1, .int .i64 N, .slice a n cap] 24)).alloc (.cells #[.slice none 0 0, .int .i64 0, .bool false, .int .i64 0] 33)) := ((Below.refl _ _).alloc (Nat.le_refl _) _).alloc (by simp) _
  have hK := Blk.new (w.alloc (.cells #[.int .i64 1, .int .i64 N, .slice a n cap] 24)) 33 #[.slice none 0 0, .int .i64 0, .bool false, .int .i64 0]
  rw [show (w.alloc (.cells #[.int .i64 1, .int .i64 N, .slice a n cap] 24)).heap.size = w.heap.size + 1 by simp] at hK
  obtain ⟨wB, hwB⟩ : ∃ wB, ((w.alloc (.cells #[.int .i64 1, .int .i64 N, .slice a n cap] 24)).alloc (.cells #[.slice none 0 0, .int .i64 0, .bool false, .int .i64 0] 33)) = wB := ⟨_, rfl⟩
  rw [hwB] at hW hK ⊢
  have hzB : wB.heap.size = w.heap.size + 2 := by rw [← hwB]; simp
  have HK := Lib.hid hK
  have HW := Lib.hid hW
  have HZB := Lib.hid hzB
  clear hwB hW hK hzB
  go_loopg [5, 22] n (fun k out idx wr => ItemsLoop n l wB k out idx wr)
  case atStart => exact ⟨0, none, 0, rfl, rfl, by omega, by simpa [itvs] using World.ownsRow_nil wB wB.heap.size 64 1, Below.refl _ _⟩
  case round =>
    obtain ⟨i, pa, ca, rfl, rfl, hik, hown, hbel⟩ := hrel
    have HO := Lib.hid hown
    have HB := Lib.hid hbel
    have hsz := hbel.size
    clear hown hbel
    by_cases hi : i < n
    · cases gk with
      | zero => omega
      | succ k =>
        obtain ⟨b1, o1, rfl, hcell⟩ := hr (by omega)
        have hrow := pits_at l i (by rw [HL.out]; exact hi)
        have ht := take_getI l i (by rw [HL.out]; exact hi)
        obtain ⟨⟨x1, x2⟩, hX⟩ : ∃ X, l.getD i dI = X := ⟨_, rfl⟩
        rw [hX] at hrow ht
        have d0 := hcell i _ hrow 0 (.int .i64 x1) rfl
        have d1 := hcell i _ hrow 1 (.int .i64 x2) rfl
        have hWr := HW.out.trans (HB.out.mono HW.out.size)
        rw [← hWr.cell (World.block_lt_of_cell? w _ d0)] at d0
        rw [← hWr.cell (World.block_lt_of_cell? w _ d1)] at d1
        rw [Nat.add_zero] at d0
        rw [← Nat.add_assoc] at d1
        have HTK := Lib.hid ht
        have hmx2 : i + 1 ≤ maxLen := by unfold maxLen; omega
        clear hr hcell hrow ht hX hWr
        have HOZ : Hid ((wr.alloc (.cells #[.int .i64 x1, .int .i64 x2] 45)).ownsRow wB.heap.size 64 1 (.slice pa i ca) i (itvs (l.take i))) := Lib.hid (HO.out.alloc _)
        have HBZ : Hid (Below wB.heap.size wB (wr.alloc (.cells #[.int .i64 x1, .int .i64 x2] 45))) := Lib.hid (HB.out.alloc hsz _)
        go_wp2_with (at_builtin; refine wpList_append1_at rfl _ _ 49 rfl wB.heap.size 64 .nilIface 16 Tryd.underlying49 info_qitem rfl (.slice pa i ca) i (itvs (l.take i)) rfl HOZ.out (.iface 55 (.agg #[.int .i64 x1, .int .i64 x2])) (by exact (slice_new (by simp) : Value.slice (some ⟨wr.heap.size + 1, 0, none⟩) 1 1 = .slice (some ⟨(wr.alloc (.cells #[.int .i64 x1, .int .i64 x2] 45)).heap.size, 0, none⟩) 1 1)) rfl hmx2 (by omega) (by simp; omega) ?_; intro g3 cap3 w3 hown3 hg3 hb3 hat3; have HO3 := Lib.hid hown3; have HB3 := Lib.hid hb3; clear hown3 hg3 hb3 hat3)
        go_roundg k
        case measure => omega
        case rel =>
          refine ⟨i + 1, _, _, rfl, by go_num, by omega, ?_, HBZ.out.trans HB3.out⟩
          rw [HTK.out, itvs_app]
          exact HO3.out
    · obtain ⟨I, hI⟩ : ∃ I, I = n := ⟨_, rfl⟩
      obtain rfl : i = I := by omega
      subst hI
      have hd : decide ((i : Int) < (i : Int)) = false := by simp
      have htl : l.take i = l := List.take_of_length_le (by rw [HL.out]; exact Nat.le_refl _)
      have ho2 := HO.out
      rw [htl] at ho2
      have hsl := Sl.of_owns ho2
      have hWr : Below w.heap.size w wr := HW.out.trans (HB.out.mono HW.out.size)
      have HP := Lib.hid (HH.out.below hWr)
      have HWR := Lib.hid hWr
      have HKR := Lib.hid (HK.out.below HB.out (by rw [HZB.out]; omega))
      have hap : ∀ a n c, (Value.slice pa i ca) = .slice (some a) n c → wB.heap.size ≤ a.block := fun a n c e => by
        injection e with e _ _
        subst e
        rcases ho2.2 with ⟨e4, _⟩ | ⟨g, cap, cur, e4, hB4, _⟩
        · injection e4 with e4 _ _; cases e4
        · injection e4 with e4 _ _
          injection e4 with e4
          subst e4
          exact hB4
      have hlt := HH.out.lt
      have hz := HZB.out
      obtain ⟨c, L, ks, h1, h2, h3, h4, h5⟩ := HP.out.h
      cases gone with
      | false =>
        have HC := Lib.hid (Put_any b m p c L ks q l dup (.slice pa i ca) wr h1 h2 h3 (h4 rfl) hsl (fun a n c e => by have := hap a n c e; exact ⟨by omega, by omega, fun e => by have := hlt.2.2 _ e; omega⟩) H9.out H0.out)
        clear htl ho2 hsl hWr hap h1 h2 h3 h4 h5 hr hlt hz
        go_wp2_with fail
        refine HC.out.mono ?_
        rintro e w2 ⟨rfl, p2, c2, L2, ks2, h1, h2, h3, h4, hf⟩
        have HQ2 : Hid (PSt w2 b m p2 (putAll dup q l) false dup) := Lib.hid ⟨c2, L2, ks2, h1, h2, h3, fun _ => h4, fun h => by cases h⟩
        have HF2 := Lib.hid ((PqFr.of_below HWR.out).trans hf)
        have HFP := Lib.hid hf
        have HK2 := Lib.hid (hf.blk HKR.out (by have := HH.out.lt; omega) (by have := HH.out.lt; omega) (fun e => by have := HH.out.lt.2.2 _ e.symm; omega))
        clear h1 h2 h3 h4 hf
        go_wp2_with fail
        refine (pqerr0 w2).mono ?_
        rintro e w3 ⟨rfl, rfl⟩
        have k0 : w2.cell? ⟨w.heap.size + 1, 0, none⟩ = some (.slice none 0 0) := HK2.out.cell 0 rfl
        have k1 : w2.cell? ⟨w.heap.size + 1, 1, none⟩ = some (.int .i64 0) := HK2.out.cell 1 rfl
        have k2 : w2.cell? ⟨w.heap.size + 1, 2, none⟩ = some (.bool false) := HK2.out.cell 2 rfl
        have k3 : w2.cell? ⟨w.heap.size + 1, 3, none⟩ = some (.int .i64 0) := HK2.out.cell 3 rfl
        have f0 := HK2.out.free 0
        have f1 := HK2.out.free 1
        have f2 := HK2.out.free 2
        have f3 := HK2.out.free 3
        go_wp2_with fail
        have hB := st4_blk HK2.out rfl (.slice none 0 0) (.int .i64 0) (.bool false) (.int .i64 0)
        have c0 := hB.cell 0 rfl
        have c1 := hB.cell 1 rfl
        have c2 := hB.cell 2 rfl
        have c3 := hB.cell 3 rfl
        refine bodyPost_ret (v := .agg #[.slice none 0 0, .int .i64 0, .bool false, .int .i64 0]) (by simp [results, Tryd.results12, go_sem, c0, c1, c2, c3]) rfl ⟨rfl, p2, ?_, ?_⟩
        · exact HQ2.out.grown (st4_grown _ _ _ _ _ _) (by have := HH.out.lt; omega) (by have := HH.out.lt; omega) (fun e => by have hz := HZB.out; rcases HFP.out.next _ e with h | h; have := HH.out.lt.2.2 _ h; omega; omega)
        · exact HF2.out.step (st4_grown _ _ _ _ _ _) (fun j e => by injection e with e; omega)
      | true =>
        have HC := Lib.hid (Put_gone a0 a1 a2 b m p c L ks l dup (.slice pa i ca) wr (HS.out.below (Nat.le_refl _) hWr) h1 hsl H0.out (by have := H9.out; omega))
        have HE := Lib.hid (pqerr1 a0 a1 a2 wr (HS.out.below (Nat.le_refl _) hWr))
        have HQ2 := HP
        have HF2 : Hid (PqFr b m (obk p) (obk p) w wr) := Lib.hid (PqFr.of_below HWR.out)
        have HK2 := HKR
        clear htl ho2 hsl hWr hap h1 h2 h3 h4 h5 hr hlt hz
        go_wp2_with fail
        refine HC.out.mono ?_
        rintro e w2 ⟨rfl, rfl⟩
        go_wp2_with fail
        refine HE.out.mono ?_
        rintro e w3 ⟨rfl, rfl⟩
        have k0 : wr.cell? ⟨w.heap.size + 1, 0, none⟩ = some (.slice none 0 0) := HK2.out.cell 0 rfl
        have k1 : wr.cell? ⟨w.heap.size + 1, 1, none⟩ = some (.int .i64 0) := HK2.out.cell 1 rfl
        have k2 : wr.cell? ⟨w.heap.size + 1, 2, none⟩ = some (.bool false) := HK2.out.cell 2 rfl
        have k3 : wr.cell? ⟨w.heap.size + 1, 3, none⟩ = some (.int .i64 0) := HK2.out.cell 3 rfl
        have f0 := HK2.out.free 0
        have f1 := HK2.out.free 1
        have f2 := HK2.out.free 2
        have f3 := HK2.out.free 3
        go_wp2_with fail
        have hB := st4_blk HK2.out rfl (.slice none 0 0) (.int .i64 0) (.bool false) (.int .i64 1)
        have c0 := hB.cell 0 rfl
        have c1 := hB.cell 1 rfl
        have c2 := hB.cell 2 rfl
        have c3 := hB.cell 3 rfl
        refine bodyPost_ret (v := .agg #[.slice none 0 0, .int .i64 0, .bool false, .int .i64 1]) (by simp [results, Tryd.results12, go_sem, c0, c1, c2, c3]) rfl ⟨rfl, p, ?_, ?_⟩
        · exact HQ2.out.grown (st4_grown _ _ _ _ _ _) (by have := HH.out.lt; omega) (by have := HH.out.lt; omega) (fun e => by have hz := HZB.out; have := HH.out.lt.2.2 _ e; omega)
        · exact HF2.out.step (st4_grown _ _ _ _ _ _) (fun j e => by injection e with e; omega)
end Go.Proofs.YtepjailijekepaaDoor
