/- FnSTAny. -/
import Derived.Test.YtdmkijdokmnicaaStRun
import Derived.Test.YtdmkijdokmnicaaStSpec
namespace Go.Proofs.Ytdmkijdokmnicaa
set_option linter.unusedVariables false
open Go.RowKit

def AnyI64s (w : World) (v : Value) : Prop := ∃ xs : List Int, Sl w v (i64s xs)
set_option maxRecDepth 100000 in
theorem open_i64s {H : Type} {enc : TypeId × Value → H} {W : World} {v : Value} {d : DataW H} {p : List MemPlace} {r : Reach} {b0 : Nat}
    (hv : Value.okWide Try.prog W r b0 35 v) (h : DataW.Trod enc Try.prog W 0 (fun _ => true) true 35 v d p) : AnyI64s W v := by
  obtain ⟨xs, hsl, hwf⟩ := open_isints Try.underlying35 Try.underlying3 (by kernel_rfl) hv h
  exact ⟨xs, hsl⟩

/-- a slice over a block that was just made, of rows -/
theorem Rw.new {S : Nat} {w : World} {g : Nat} {t : TypeId} {cs : Array Value} {rows : List (List Value)} (hb : Blk w g t cs) (hS : ∀ r ∈ rows, r.length = S) (hc : cs.toList = rows.flatten) (n : Nat) (hn : rows.length = n) (hm : n ≤ maxLen) : Rw S w (.slice (some ⟨g, 0, none⟩) n n) rows := by
  refine ⟨_, n, n, rfl, hn, Nat.le_refl _, hm, fun _ => ⟨g, 0, rfl, fun i row hi j u hu => ?_⟩⟩
  have h := flatten_at S rows hS i j row u hi hu
  rw [Nat.zero_add]
  refine hb.cell _ ?_
  rw [← hc, Array.getElem?_toList] at h
  exact h

def TurnLoop (n : Nat) (l : List Int) (w : World) (k : Nat) (out idx : Value) (wr : World) : Prop :=
  ∃ (i : Nat) (p : Option Addr) (cap : Nat), out = .slice p i cap ∧ idx = .int .i64 ((n : Int) - 1 - (i : Int)) ∧ i + k = n ∧ wr.ownsRow w.heap.size 3 1 (.slice p i cap) i (i64s (l.reverse.take i)) ∧ Below w.heap.size w wr

theorem rev_take (l : List Int) (i : Nat) (h : i < l.length) : l.reverse.take (i + 1) = l.reverse.take i ++ [l.getD (l.length - 1 - i) 0] := by
  rw [take_getD _ _ (by simpa using h)]
  congr 2
  simp [List.getD_eq_getElem?_getD, List.getElem?_reverse h]

/-- what a record says of the set -/
def RecIs (w : World) (A : Nat) (l items : List Int) : Prop :=
  ∃ (f0 e0 : Value) (Z n : Nat) (ks : List Int), Blk w A 45 #[.int .i64 (l.length : Int), f0, .bool (items.all fun x => decide (x ∈ l)), e0] ∧ w.ownsRow Z 3 1 f0 n (i64s ks) ∧ SameSet ks l
def LawCut (l1 l2 l3 l4 b1 b2 : List Int) (w : World) (v9 v10 v11 v12 : Value) (wx : World) : Prop :=
  ∃ A B C D : Nat, v9 = .pointer (some ⟨A, 0, none⟩) ∧ v10 = .pointer (some ⟨B, 0, none⟩) ∧ v11 = .pointer (some ⟨C, 0, none⟩) ∧ v12 = .pointer (some ⟨D, 0, none⟩) ∧
    RecIs wx A l1 b1 ∧ RecIs wx B l2 b2 ∧ RecIs wx C l3 b1 ∧ RecIs wx D l4 b1 ∧ Below w.heap.size w wx

theorem st_len (xs : List StStep) : ∀ l0 : List Int, (∀ x ∈ xs, x.items.length ≤ 20) → (stAfter l0 xs).length ≤ l0.length + 20 * xs.length := by
  induction xs with
  | nil => intro l0 _; simp [stAfter]
  | cons x r ih =>
    intro l0 h
    show (stAfter (stNext l0 x) r).length ≤ _
    have h1 := ih (stNext l0 x) (fun y hy => h y (List.mem_cons_of_mem _ hy))
    have h2 := h x (by simp)
    have h3 : (stNext l0 x).length ≤ l0.length + x.items.length := by
      unfold stNext
      split
      · exact Zs.len_add _ _
      · have := Zs.len_rem x.items l0
        omega
    simp only [List.length_cons]
    omega
theorem st_len_take (xs : List StStep) (l0 : List Int) (h : ∀ x ∈ xs, x.items.length ≤ 20) (j : Nat) : (stAfter l0 (xs.take j)).length ≤ l0.length + 20 * xs.length := by
  have h1 := st_len (xs.take j) l0 (fun x hx => h x (List.mem_of_mem_take hx))
  have h2 : (xs.take j).length ≤ xs.length := by rw [List.length_take]; omega
  omega

/-- what STRun leaves, as the law reads it -/
theorem Rw.at {S : Nat} {w : World} {v : Value} {rows : List (List Value)} {n : Nat} (h : Rw S w v rows) (hn : rows.length = n) (h0 : 0 < n) : ∃ b off cap, v = .slice (some ⟨b, off, none⟩) n cap ∧ ∀ i row, rows[i]? = some row → ∀ j u, row[j]? = some u → w.cell? ⟨b, off + (i * S + j), none⟩ = some u := by
  obtain ⟨a, n', cap, rfl, hn', hc, hm, hr⟩ := h
  obtain rfl : n' = n := by omega
  obtain ⟨b, off, rfl, hcell⟩ := hr h0
  exact ⟨b, off, cap, rfl, hcell⟩

/-- a record among the rows: its four cells, and what it says -/
def Four (w : World) (b o : Nat) (l items : List Int) (f0 e0 : Value) : Prop :=
  (w.cell? ⟨b, o, none⟩ = some (.int .i64 (l.length : Int)) ∧ w.cell? ⟨b, o + 1, none⟩ = some f0 ∧ w.cell? ⟨b, o + 2, none⟩ = some (.bool (items.all fun x => decide (x ∈ l))) ∧ w.cell? ⟨b, o + 3, none⟩ = some e0) ∧
    ∃ (Z n : Nat) (ks : List Int), w.ownsRow Z 3 1 f0 n (i64s ks) ∧ SameSet ks l
theorem four_of {w : World} {b off i : Nat} {rows : List (List Value)} {Z s bb : Nat} {l items : List Int} {row : List Value} (hcell : ∀ i row, rows[i]? = some row → ∀ j u, row[j]? = some u → w.cell? ⟨b, off + (i * 4 + j), none⟩ = some u)
    (hrow : rows[i]? = some row) (h : SaidIs w Z s bb l items row) (o : Nat) (ho : o = off + i * 4) : ∃ (fq eq : Option Addr) (fn fc en ec : Nat), Four w b o l items (.slice fq fn fc) (.slice eq en ec) := by
  obtain ⟨fq, eq, fn, fc, en, ec, ks, rfl, h1, h2⟩ := h
  subst ho
  refine ⟨fq, eq, fn, fc, en, ec, ⟨?_, ?_, ?_, ?_⟩, Z, _, ks, h1, h2⟩
  · exact hcell i _ hrow 0 _ rfl
  · rw [Nat.add_assoc]; exact hcell i _ hrow 1 _ rfl
  · rw [Nat.add_assoc]; exact hcell i _ hrow 2 _ rfl
  · rw [Nat.add_assoc]; exact hcell i _ hrow 3 _ rfl
theorem Four.below {w w' : World} {b o : Nat} {l items : List Int} {f0 e0 : Value} (h : Four w b o l items f0 e0) (hb : Below w.heap.size w w') : Four w' b o l items f0 e0 := by
  obtain ⟨⟨h0, h1, h2, h3⟩, Z, n, ks, h4, h5⟩ := h
  refine ⟨⟨?_, ?_, ?_, ?_⟩, Z, n, ks, row_below h4 hb, h5⟩
  · exact (hb.cell (World.block_lt_of_cell? w _ h0)).trans h0
  · exact (hb.cell (World.block_lt_of_cell? w _ h1)).trans h1
  · exact (hb.cell (World.block_lt_of_cell? w _ h2)).trans h2
  · exact (hb.cell (World.block_lt_of_cell? w _ h3)).trans h3

theorem Blk.new' {X : World} {b : Nat} {t : TypeId} {cs : Array Value} (h : b = X.heap.size) : Blk (X.alloc (.cells cs t)) b t cs := by subst h; exact Blk.new X t cs
theorem LawCut.mk' {l1 l2 l3 l4 i1 i2 : List Int} {w W : World} {b1 o1 b2 o2 b3 o3 b4 o4 : Nat} {f1 e1 f2 e2 f3 e3 f4 e4 : Value} {A B C D : Nat} (h1 : Four w b1 o1 l1 i1 f1 e1) (h2 : Four w b2 o2 l2 i2 f2 e2) (h3 : Four w b3 o3 l3 i1 f3 e3) (h4 : Four w b4 o4 l4 i1 f4 e4)
    (hb : Below w.heap.size w W) (kA : Blk W A 45 #[.int .i64 (l1.length : Int), f1, .bool (i1.all fun x => decide (x ∈ l1)), e1]) (kB : Blk W B 45 #[.int .i64 (l2.length : Int), f2, .bool (i2.all fun x => decide (x ∈ l2)), e2])
    (kC : Blk W C 45 #[.int .i64 (l3.length : Int), f3, .bool (i1.all fun x => decide (x ∈ l3)), e3]) (kD : Blk W D 45 #[.int .i64 (l4.length : Int), f4, .bool (i1.all fun x => decide (x ∈ l4)), e4]) :
    LawCut l1 l2 l3 l4 i1 i2 w (.pointer (some ⟨A, 0, none⟩)) (.pointer (some ⟨B, 0, none⟩)) (.pointer (some ⟨C, 0, none⟩)) (.pointer (some ⟨D, 0, none⟩)) W := by
  obtain ⟨_, Z1, n1, k1, x1, y1⟩ := h1
  obtain ⟨_, Z2, n2, k2, x2, y2⟩ := h2
  obtain ⟨_, Z3, n3, k3, x3, y3⟩ := h3
  obtain ⟨_, Z4, n4, k4, x4, y4⟩ := h4
  exact ⟨A, B, C, D, rfl, rfl, rfl, rfl, ⟨f1, e1, Z1, n1, k1, kA, row_below x1 hb, y1⟩, ⟨f2, e2, Z2, n2, k2, kB, row_below x2 hb, y2⟩, ⟨f3, e3, Z3, n3, k3, kC, row_below x3 hb, y3⟩, ⟨f4, e4, Z4, n4, k4, kD, row_below x4 hb, y4⟩, hb⟩

def stp (op : Nat) (v : Value) (items : List Int) : StStep := ⟨op, v, items⟩

set_option maxRecDepth 100000 in
set_option maxHeartbeats 16000000 in
theorem law_stany (v u : Value) (w : World) (hv : AnyI64s w v) (hu : AnyI64s w u) :
    Calls Try.prog 5 #[v, u] w fun e w' => e = .returned (.bool true) ∧ Below w.heap.size w w' := by
  obtain ⟨xs, hs⟩ := hv
  obtain ⟨ys, hs2⟩ := hu
  have hs0 := hs
  have hs02 := hs2
  obtain ⟨a1, n1, c1, rfl, hl1, hc1, hm1, hr1⟩ := hs0
  obtain ⟨a2, n2, c2, rfl, hl2, _, hm2, _⟩ := hs02
  rw [i64s_len] at hl1 hl2
  unfold maxLen at hm1 hm2
  have hn1 : (n1 : Int) ≤ 9223372036854775807 := by omega
  have hn2 : (n2 : Int) ≤ 9223372036854775807 := by omega
  have HS := Lib.hid hs
  have HS2 := Lib.hid hs2
  have HR1 := Lib.hid hr1
  have HL1 := Lib.hid hl1
  have HL2 := Lib.hid hl2
  clear hs hs2 hr1 hc1 hm1 hm2 hl1 hl2
  by_cases hf : 20 < n1 ∨ 20 < n2
  · by_cases hA : (2147483647 : Int) < (n1 : Int)
    · go_enter Try.func5, Try.ntmps5
      go_wp2_with fail
      go_ret
      exact ⟨rfl, Below.refl _ _⟩
    · by_cases hB : (2147483647 : Int) < (n2 : Int)
      · go_enter Try.func5, Try.ntmps5
        go_wp2_with fail
        go_ret
        exact ⟨rfl, Below.refl _ _⟩
      · by_cases hC : (20 : Int) < (n1 : Int)
        · go_enter Try.func5, Try.ntmps5
          go_wp2_with fail
          go_ret
          exact ⟨rfl, Below.refl _ _⟩
        · have hD : (20 : Int) < (n2 : Int) := by omega
          go_enter Try.func5, Try.ntmps5
          go_wp2_with fail
          go_ret
          exact ⟨rfl, Below.refl _ _⟩
  · have hn20 : n1 ≤ 20 := by omega
    have hn20b : n2 ≤ 20 := by omega
    clear hf
    go_enter Try.func5, Try.ntmps5
    go_wp2_with fail
    go_loopg [5, 6] n1 (fun k out idx wr => TurnLoop n1 xs w k out idx wr)
    case atStart => exact ⟨0, none, 0, rfl, by go_num, by omega, by simpa [i64s] using World.ownsRow_nil w w.heap.size 3 1, Below.refl _ _⟩
    case round =>
      obtain ⟨i, p, cap, rfl, rfl, hik, hown, hbel⟩ := hrel
      have HO := Lib.hid hown
      have HB := Lib.hid hbel
      have hsz := hbel.size
      clear hown
      by_cases hi : i < n1
      · cases gk with
        | zero => omega
        | succ k =>
          obtain ⟨b1, o1, rfl, hcell⟩ := HR1.out (by omega)
          have hil : i < xs.length := by rw [HL1.out]; exact hi
          have h1 := hcell (n1 - 1 - i) _ (i64s_at xs (n1 - 1 - i) (by rw [HL1.out]; omega))
          rw [← hbel.cell (World.block_lt_of_cell? w _ h1)] at h1
          have htk := rev_take xs i hil
          rw [HL1.out] at htk
          obtain ⟨X, hX⟩ : ∃ X, xs.getD (n1 - 1 - i) 0 = X := ⟨_, rfl⟩
          rw [hX] at h1 htk
          obtain ⟨m, hm⟩ : ∃ m, n1 - 1 - i = m := ⟨_, rfl⟩
          rw [hm] at h1
          have em : (n1 : Int) - 1 - (i : Int) = (m : Int) := by omega
          rw [em]
          have hmn : m < n1 := by omega
          have HTK := Lib.hid htk
          have HEM := Lib.hid em
          have hmx : i + 1 ≤ maxLen := by unfold maxLen; omega
          clear hcell hX htk hil hbel em hm
          go_wp2_with (at_builtin; refine wpList_append1 rfl _ _ 35 rfl w.heap.size 3 (.int .i64 0) 8 Try.underlying35 info_int rfl _ i _ rfl HO.out (.int .i64 X) rfl rfl hmx (by omega) hsz ?_; intro g cap1 w1 hown1 hg1 hb1)
          go_roundg k
          case measure => omega
          case rel =>
            refine ⟨i + 1, some ⟨g, 0, none⟩, cap1, rfl, ?_, by omega, ?_, HB.out.trans hb1⟩
            · have := HEM.out
              have e : (m : Int) - 1 = (n1 : Int) - 1 - ((i + 1 : Nat) : Int) := by omega
              rw [e]
            · rw [HTK.out, i64s_app]
              exact hown1
      · obtain ⟨I, hI⟩ : ∃ I, I = n1 := ⟨_, rfl⟩
        obtain rfl : i = I := by omega
        have HI := Lib.hid hI
        have hneg : (n1 : Int) - 1 - (i : Int) = -1 := by omega
        rw [hneg]
        have hi20 : i ≤ 20 := by omega
        have HB := Lib.hid hbel
        have hrev : Sl wr (.slice p i cap) (i64s xs.reverse) := by
          have h := Sl.of_owns HO.out
          rw [List.take_of_length_le (by simp; rw [HL1.out]; omega)] at h
          exact h
        have HREV := Lib.hid hrev
        have hx20 : xs.length ≤ 20 := by rw [HL1.out]; omega
        have hy20 : ys.length ≤ 20 := by rw [HL2.out]; omega
        have HX20 := Lib.hid hx20
        have HY20 := Lib.hid hy20
        obtain ⟨W1, hW1⟩ : ∃ W1, W1 = wr.alloc (.cells #[.int .i64 1, .slice a2 n2 c2, .int .i64 2, .slice a2 n2 c2] 41) := ⟨_, rfl⟩
        have hb1 : Below wr.heap.size wr W1 := by rw [hW1]; exact (Below.refl _ _).alloc (Nat.le_refl _) _
        have hT1 := HB.out.trans (hb1.mono HB.out.size)
        have HT1 := Lib.hid hT1
        have hk1 : Blk W1 wr.heap.size 41 #[.int .i64 1, .slice a2 n2 c2, .int .i64 2, .slice a2 n2 c2] := by rw [hW1]; exact Blk.new _ _ _
        have hrw1 : Rw 2 W1 (.slice (some ⟨wr.heap.size, 0, none⟩) 2 2) ([stp 1 (.slice a2 n2 c2) ys, stp 2 (.slice a2 n2 c2) ys].map stRow) :=
          Rw.new hk1 (by intro r hr; simp at hr; rcases hr with rfl | rfl <;> rfl) rfl 2 rfl (by unfold maxLen; omega)
        have HR1 := Lib.hid (strun_any (.slice a1 n1 c1) _ xs [stp 1 (.slice a2 n2 c2) ys, stp 2 (.slice a2 n2 c2) ys] 2 W1 (HS.out.below rfl hT1) hrw1 (by omega) rfl (by omega)
          (by intro x hx; simp at hx; rcases hx with rfl | rfl <;> exact ⟨by simp [stp], HS2.out.below rfl hT1, by simp only [stp]; omega⟩)
          (fun j _ => by have h1 := st_len_take [stp 1 (.slice a2 n2 c2) ys, stp 2 (.slice a2 n2 c2) ys] (Zs.addAll [] xs) (by intro x hx; simp at hx; rcases hx with rfl | rfl <;> exact hy20) j; have h2 := Zs.len_add xs []; simp at h1 h2; omega))
        subst hW1
        clear hI hi hik hneg hbel hrev hx20 hy20 hb1 hT1 hk1 hrw1
        go_wp2_with fail
        refine HR1.out.mono ?_
        rintro e w3 ⟨v1, rows1, Z1, s1, b1, rfl, hrw, hlen, hsaid, hbel⟩
        have HT3 := Lib.hid (HT1.out.trans (hbel.mono HT1.out.size))
        have hz : wr.heap.size ≤ w3.heap.size := by have := hbel.size; simp at this; omega
        have HREV3 := Lib.hid ((HREV.out.below rfl ((Below.refl wr.heap.size wr).alloc (Nat.le_refl _) (.cells #[.int .i64 1, .slice a2 n2 c2, .int .i64 2, .slice a2 n2 c2] 41))).below rfl hbel)
        obtain ⟨bb1, of1, cp1, rfl, hcell⟩ := hrw.at hlen (by omega)
        have hg0 : ∃ r, rows1[0]? = some r := ⟨rows1[0], by simp [hlen]⟩
        have hg1 : ∃ r, rows1[1]? = some r := ⟨rows1[1], by simp [hlen]⟩
        obtain ⟨r0, hr0⟩ := hg0
        obtain ⟨r1, hr1⟩ := hg1
        obtain ⟨fxq, exq, fxn, fxc, exn, exc, hx⟩ := four_of hcell hr0 (hsaid 0 _ r0 rfl hr0) of1 (by omega)
        obtain ⟨fzq, ezq, fzn, fzc, ezn, ezc, hz1⟩ := four_of hcell hr1 (hsaid 1 _ r1 rfl hr1) (of1 + 4) (by omega)
        have HX := Lib.hid hx
        have HZ1 := Lib.hid hz1
        clear hrw hlen hsaid hbel hcell hr0 hr1 hx hz1 hz
        obtain ⟨W4, hW4⟩ : ∃ W4, W4 = w3.alloc (.cells #[.int .i64 1, .slice a2 n2 c2, .int .i64 1, .slice p i cap, .int .i64 1, .slice a1 n1 c1, .int .i64 2, .slice a2 n2 c2] 41) := ⟨_, rfl⟩
        have hb4 : Below w3.heap.size w3 W4 := by rw [hW4]; exact (Below.refl _ _).alloc (Nat.le_refl _) _
        have hT4 := HT3.out.trans (hb4.mono HT3.out.size)
        have HT4 := Lib.hid hT4
        have HX4 := Lib.hid (HX.out.below hb4)
        have HZ4 := Lib.hid (HZ1.out.below hb4)
        have hk4 : Blk W4 w3.heap.size 41 #[.int .i64 1, .slice a2 n2 c2, .int .i64 1, .slice p i cap, .int .i64 1, .slice a1 n1 c1, .int .i64 2, .slice a2 n2 c2] := by rw [hW4]; exact Blk.new _ _ _
        have hrw4 : Rw 2 W4 (.slice (some ⟨w3.heap.size, 0, none⟩) 4 4) ([stp 1 (.slice a2 n2 c2) ys, stp 1 (.slice p i cap) xs.reverse, stp 1 (.slice a1 n1 c1) xs, stp 2 (.slice a2 n2 c2) ys].map stRow) :=
          Rw.new hk4 (by intro r hr; simp at hr; rcases hr with rfl | rfl | rfl | rfl <;> rfl) rfl 4 rfl (by unfold maxLen; omega)
        have HR4 := Lib.hid (strun_any (.slice none 0 0) _ [] [stp 1 (.slice a2 n2 c2) ys, stp 1 (.slice p i cap) xs.reverse, stp 1 (.slice a1 n1 c1) xs, stp 2 (.slice a2 n2 c2) ys] 4 W4 (by simpa [i64s] using Sl.nil W4) hrw4 (by simp) rfl (by omega)
          (by
            intro x hx
            simp at hx
            rcases hx with rfl | rfl | rfl | rfl
            · exact ⟨by simp [stp], HS2.out.below rfl hT4, by have := HY20.out; simp only [stp]; omega⟩
            · exact ⟨by simp [stp], HREV3.out.below rfl hb4, by have := HX20.out; simp only [stp, List.length_reverse]; omega⟩
            · exact ⟨by simp [stp], HS.out.below rfl hT4, by have := HX20.out; simp only [stp]; omega⟩
            · exact ⟨by simp [stp], HS2.out.below rfl hT4, by have := HY20.out; simp only [stp]; omega⟩)
          (fun j _ => by
            have h1 := st_len_take [stp 1 (.slice a2 n2 c2) ys, stp 1 (.slice p i cap) xs.reverse, stp 1 (.slice a1 n1 c1) xs, stp 2 (.slice a2 n2 c2) ys] (Zs.addAll [] []) (by
              intro x hx
              have := HX20.out
              have := HY20.out
              simp at hx
              rcases hx with rfl | rfl | rfl | rfl <;> simp only [stp, List.length_reverse] <;> omega) j
            simp [Zs.addAll] at h1
            simp only [Zs.addAll, List.foldl_nil]
            omega))
        subst hW4
        clear hb4 hT4 hk4 hrw4
        go_wp2_with fail
        refine HR4.out.mono ?_
        rintro e w5 ⟨v2, rows2, Z2, s2, b2, rfl, hrw, hlen, hsaid, hbel⟩
        have HT5 := Lib.hid (HT4.out.trans (hbel.mono HT4.out.size))
        have HX5 := Lib.hid (HX4.out.below hbel)
        have HZ5 := Lib.hid (HZ4.out.below hbel)
        obtain ⟨bb2, of2, cp2, rfl, hcell⟩ := hrw.at hlen (by omega)
        obtain ⟨r2, hr2⟩ : ∃ r, rows2[2]? = some r := ⟨rows2[2], by simp [hlen]⟩
        obtain ⟨r3, hr3⟩ : ∃ r, rows2[3]? = some r := ⟨rows2[3], by simp [hlen]⟩
        obtain ⟨fyq, eyq, fyn, fyc, eyn, eyc, hy⟩ := four_of hcell hr2 (hsaid 2 _ r2 rfl hr2) (of2 + 8) (by omega)
        obtain ⟨fwq, ewq, fwn, fwc, ewn, ewc, hw⟩ := four_of hcell hr3 (hsaid 3 _ r3 rfl hr3) (of2 + 12) (by omega)
        have HY5 := Lib.hid hy
        have HW5 := Lib.hid hw
        clear hrw hlen hsaid hbel hcell hr2 hr3 hy hw
        obtain ⟨L1, hL1⟩ : ∃ L1, L1 = Zs.addAll (Zs.addAll [] xs) ys := ⟨_, rfl⟩
        obtain ⟨L3, hL3⟩ : ∃ L3, L3 = Zs.remAll (Zs.addAll (Zs.addAll [] xs) ys) ys := ⟨_, rfl⟩
        obtain ⟨L2, hL2⟩ : ∃ L2, L2 = Zs.addAll (Zs.addAll (Zs.addAll [] ys) xs.reverse) xs := ⟨_, rfl⟩
        obtain ⟨L4, hL4⟩ : ∃ L4, L4 = Zs.remAll (Zs.addAll (Zs.addAll (Zs.addAll [] ys) xs.reverse) xs) ys := ⟨_, rfl⟩
        have HX5 : Hid (Four w5 bb1 of1 L1 ys (.slice fxq fxn fxc) (.slice exq exn exc)) := Lib.hid (by rw [hL1]; exact HX5.out)
        have HZ5 : Hid (Four w5 bb1 (of1 + 4) L3 ys (.slice fzq fzn fzc) (.slice ezq ezn ezc)) := Lib.hid (by rw [hL3]; exact HZ5.out)
        have HY5 : Hid (Four w5 bb2 (of2 + 8) L2 xs (.slice fyq fyn fyc) (.slice eyq eyn eyc)) := Lib.hid (by rw [hL2]; exact HY5.out)
        have HW5 : Hid (Four w5 bb2 (of2 + 12) L4 ys (.slice fwq fwn fwc) (.slice ewq ewn ewc)) := Lib.hid (by rw [hL4]; exact HW5.out)
        have hn1 : L1.Nodup := by rw [hL1]; exact Zs.nodup_add _ _ (Zs.nodup_add _ _ (by simp))
        have hn2 : L2.Nodup := by rw [hL2]; exact Zs.nodup_add _ _ (Zs.nodup_add _ _ (Zs.nodup_add _ _ (by simp)))
        have hm1 : ∀ x, x ∈ L1 ↔ x ∈ xs ∨ x ∈ ys := by intro x; rw [hL1, Zs.mem_add, Zs.mem_add]; simp
        have hm2 : ∀ x, x ∈ L2 ↔ x ∈ xs ∨ x ∈ ys := by
          intro x
          rw [hL2, Zs.mem_add, Zs.mem_add, Zs.mem_add]
          simp only [List.not_mem_nil, false_or, List.mem_reverse]
          constructor
          · rintro ((h | h) | h)
            · exact .inr h
            · exact .inl h
            · exact .inl h
          · rintro (h | h)
            · exact .inr h
            · exact .inl (.inl h)
        have h3 : L3 = Zs.remAll L1 ys := by rw [hL3, hL1]
        have h4 : L4 = Zs.remAll L2 ys := by rw [hL4, hL2]
        have hn3 : L3.Nodup := by rw [h3]; exact Zs.nodup_rem _ _ hn1
        have hn4 : L4.Nodup := by rw [h4]; exact Zs.nodup_rem _ _ hn2
        have H12 := Lib.hid (show (∀ x, x ∈ L1 ↔ x ∈ L2) from fun x => by rw [hm1, hm2])
        have H34 := Lib.hid (show (∀ x, x ∈ L3 ↔ x ∈ L4) from fun x => by rw [h3, h4, Zs.mem_rem _ _ _ hn1, Zs.mem_rem _ _ _ hn2, hm1, hm2])
        have HN := Lib.hid (And.intro hn1 (And.intro hn2 (And.intro hn3 hn4)))
        have HA1 : Hid ((ys.all fun x => decide (x ∈ L1)) = true) := Lib.hid (by rw [List.all_eq_true]; intro x hx; simpa using (hm1 x).2 (.inr hx))
        have HA3 : Hid (0 < ys.length → (ys.all fun x => decide (x ∈ L3)) = false) := Lib.hid (fun h0 => by
          rw [List.all_eq_false]
          refine ⟨ys[0], List.getElem_mem h0, ?_⟩
          rw [h3]
          have : ¬ ys[0] ∈ Zs.remAll L1 ys := fun h => ((Zs.mem_rem _ _ _ hn1).1 h).2 (List.getElem_mem h0)
          simpa using this)
        have HLEN := Lib.hid (And.intro (Zs.len_same hn1 hn2 H12.out) (Zs.len_same hn3 hn4 H34.out))
        have HSH : Hid (L1.length ≤ 100 ∧ L3.length ≤ 100) := Lib.hid (by
          have h1 := Zs.len_add ys (Zs.addAll [] xs)
          have h2 := Zs.len_add xs []
          have h3' := Zs.len_rem ys L1
          have := HX20.out
          have := HY20.out
          simp at h2
          rw [← hL1] at h1
          rw [← h3] at h3'
          omega)
        clear hL1 hL2 hL3 hL4 hn1 hn2 hn3 hn4 hm1 hm2 h3 h4
        have qX0 : w5.drew.cell? ⟨bb1, of1, none⟩ = some (.int .i64 (L1.length : Int)) := HX5.out.1.1
        have pX0 : w5.cell? ⟨bb1, of1, none⟩ = some (.int .i64 (L1.length : Int)) := HX5.out.1.1
        have qX1 : w5.drew.cell? ⟨bb1, of1 + 1, none⟩ = some (.slice fxq fxn fxc) := HX5.out.1.2.1
        have pX1 : w5.cell? ⟨bb1, of1 + 1, none⟩ = some (.slice fxq fxn fxc) := HX5.out.1.2.1
        have qX2 : w5.drew.cell? ⟨bb1, of1 + 2, none⟩ = some (.bool (ys.all fun x => decide (x ∈ L1))) := HX5.out.1.2.2.1
        have pX2 : w5.cell? ⟨bb1, of1 + 2, none⟩ = some (.bool (ys.all fun x => decide (x ∈ L1))) := HX5.out.1.2.2.1
        have qX3 : w5.drew.cell? ⟨bb1, of1 + 3, none⟩ = some (.slice exq exn exc) := HX5.out.1.2.2.2
        have pX3 : w5.cell? ⟨bb1, of1 + 3, none⟩ = some (.slice exq exn exc) := HX5.out.1.2.2.2
        have qZ0 : w5.drew.cell? ⟨bb1, of1 + 4, none⟩ = some (.int .i64 (L3.length : Int)) := HZ5.out.1.1
        have pZ0 : w5.cell? ⟨bb1, of1 + 4, none⟩ = some (.int .i64 (L3.length : Int)) := HZ5.out.1.1
        have qZ1 : w5.drew.cell? ⟨bb1, of1 + 5, none⟩ = some (.slice fzq fzn fzc) := HZ5.out.1.2.1
        have pZ1 : w5.cell? ⟨bb1, of1 + 5, none⟩ = some (.slice fzq fzn fzc) := HZ5.out.1.2.1
        have qZ2 : w5.drew.cell? ⟨bb1, of1 + 6, none⟩ = some (.bool (ys.all fun x => decide (x ∈ L3))) := HZ5.out.1.2.2.1
        have pZ2 : w5.cell? ⟨bb1, of1 + 6, none⟩ = some (.bool (ys.all fun x => decide (x ∈ L3))) := HZ5.out.1.2.2.1
        have qZ3 : w5.drew.cell? ⟨bb1, of1 + 7, none⟩ = some (.slice ezq ezn ezc) := HZ5.out.1.2.2.2
        have pZ3 : w5.cell? ⟨bb1, of1 + 7, none⟩ = some (.slice ezq ezn ezc) := HZ5.out.1.2.2.2
        have qY0 : w5.drew.cell? ⟨bb2, of2 + 8, none⟩ = some (.int .i64 (L2.length : Int)) := HY5.out.1.1
        have pY0 : w5.cell? ⟨bb2, of2 + 8, none⟩ = some (.int .i64 (L2.length : Int)) := HY5.out.1.1
        have qY1 : w5.drew.cell? ⟨bb2, of2 + 9, none⟩ = some (.slice fyq fyn fyc) := HY5.out.1.2.1
        have pY1 : w5.cell? ⟨bb2, of2 + 9, none⟩ = some (.slice fyq fyn fyc) := HY5.out.1.2.1
        have qY2 : w5.drew.cell? ⟨bb2, of2 + 10, none⟩ = some (.bool (xs.all fun x => decide (x ∈ L2))) := HY5.out.1.2.2.1
        have pY2 : w5.cell? ⟨bb2, of2 + 10, none⟩ = some (.bool (xs.all fun x => decide (x ∈ L2))) := HY5.out.1.2.2.1
        have qY3 : w5.drew.cell? ⟨bb2, of2 + 11, none⟩ = some (.slice eyq eyn eyc) := HY5.out.1.2.2.2
        have pY3 : w5.cell? ⟨bb2, of2 + 11, none⟩ = some (.slice eyq eyn eyc) := HY5.out.1.2.2.2
        have qW0 : w5.drew.cell? ⟨bb2, of2 + 12, none⟩ = some (.int .i64 (L4.length : Int)) := HW5.out.1.1
        have pW0 : w5.cell? ⟨bb2, of2 + 12, none⟩ = some (.int .i64 (L4.length : Int)) := HW5.out.1.1
        have qW1 : w5.drew.cell? ⟨bb2, of2 + 13, none⟩ = some (.slice fwq fwn fwc) := HW5.out.1.2.1
        have pW1 : w5.cell? ⟨bb2, of2 + 13, none⟩ = some (.slice fwq fwn fwc) := HW5.out.1.2.1
        have qW2 : w5.drew.cell? ⟨bb2, of2 + 14, none⟩ = some (.bool (ys.all fun x => decide (x ∈ L4))) := HW5.out.1.2.2.1
        have pW2 : w5.cell? ⟨bb2, of2 + 14, none⟩ = some (.bool (ys.all fun x => decide (x ∈ L4))) := HW5.out.1.2.2.1
        have qW3 : w5.drew.cell? ⟨bb2, of2 + 15, none⟩ = some (.slice ewq ewn ewc) := HW5.out.1.2.2.2
        have pW3 : w5.cell? ⟨bb2, of2 + 15, none⟩ = some (.slice ewq ewn ewc) := HW5.out.1.2.2.2
        have hlt1 : bb1 < w5.heap.size := World.block_lt_of_cell? w5 _ HX5.out.1.1
        have hlt2 : bb2 < w5.heap.size := World.block_lt_of_cell? w5 _ HY5.out.1.1
        go_wp2_with fail
        go_cut [9, 10, 11, 12] (fun v9 v10 v11 v12 wx => LawCut L1 L2 L3 L4 ys xs w5 v9 v10 v11 v12 wx)
        case first =>
          go_region_held3 (fun w' => w'.cell? ⟨bb1, of1, none⟩ = some (.int .i64 (L1.length : Int)) ∧ w'.cell? ⟨bb1, of1 + 1, none⟩ = some (.slice fxq fxn fxc) ∧ w'.cell? ⟨bb1, of1 + 2, none⟩ = some (.bool (ys.all fun x => decide (x ∈ L1))) ∧ w'.cell? ⟨bb1, of1 + 3, none⟩ = some (.slice exq exn exc) ∧ w'.cell? ⟨bb1, of1 + 4, none⟩ = some (.int .i64 (L3.length : Int)) ∧ w'.cell? ⟨bb1, of1 + 5, none⟩ = some (.slice fzq fzn fzc) ∧ w'.cell? ⟨bb1, of1 + 6, none⟩ = some (.bool (ys.all fun x => decide (x ∈ L3))) ∧ w'.cell? ⟨bb1, of1 + 7, none⟩ = some (.slice ezq ezn ezc) ∧ w'.cell? ⟨bb2, of2 + 8, none⟩ = some (.int .i64 (L2.length : Int)) ∧ w'.cell? ⟨bb2, of2 + 9, none⟩ = some (.slice fyq fyn fyc) ∧ w'.cell? ⟨bb2, of2 + 10, none⟩ = some (.bool (xs.all fun x => decide (x ∈ L2))) ∧ w'.cell? ⟨bb2, of2 + 11, none⟩ = some (.slice eyq eyn eyc) ∧ w'.cell? ⟨bb2, of2 + 12, none⟩ = some (.int .i64 (L4.length : Int)) ∧ w'.cell? ⟨bb2, of2 + 13, none⟩ = some (.slice fwq fwn fwc) ∧ w'.cell? ⟨bb2, of2 + 14, none⟩ = some (.bool (ys.all fun x => decide (x ∈ L4))) ∧ w'.cell? ⟨bb2, of2 + 15, none⟩ = some (.slice ewq ewn ewc))
            ((first | exact ⟨by assumption, by assumption, by assumption, by assumption, by assumption, by assumption, by assumption, by assumption, by assumption, by assumption, by assumption, by assumption, by assumption, by assumption, by assumption, by assumption⟩ | (refine ⟨?_, ?_, ?_, ?_, ?_, ?_, ?_, ?_, ?_, ?_, ?_, ?_, ?_, ?_, ?_, ?_⟩ <;> (repeat (first | with_reducible assumption | with_reducible refine drew_keep ?_ | with_reducible refine alloc_keep ?_ _ | with_reducible refine set_keep ?_ ?_ | (simp only []; omega))))))
            (fail)
          all_goals
            go_wp2_with fail
            go_meet
            refine LawCut.mk' HX5.out HY5.out HZ5.out HW5.out ?_ ?_ ?_ ?_ ?_
            · (repeat (first | with_reducible exact Below.refl _ _ | with_reducible refine Below.drew ?_ | with_reducible refine Below.alloc ?_ ?_ _ | with_reducible exact Nat.le_refl _ | (focus (simp only [World.size_alloc]; omega))))
            · (repeat (first | (with_reducible refine Blk.new' ?_; (first | rfl | (simp; done) | (simp; omega))) | with_reducible refine Blk.drew ?_ | with_reducible refine Blk.alloc ?_ _))
            · (repeat (first | (with_reducible refine Blk.new' ?_; (first | rfl | (simp; done) | (simp; omega))) | with_reducible refine Blk.drew ?_ | with_reducible refine Blk.alloc ?_ _))
            · (repeat (first | (with_reducible refine Blk.new' ?_; (first | rfl | (simp; done) | (simp; omega))) | with_reducible refine Blk.drew ?_ | with_reducible refine Blk.alloc ?_ _))
            · (repeat (first | (with_reducible refine Blk.new' ?_; (first | rfl | (simp; done) | (simp; omega))) | with_reducible refine Blk.drew ?_ | with_reducible refine Blk.alloc ?_ _))
        case rest =>
          obtain ⟨A, B, C, D, rfl, rfl, rfl, rfl, ⟨f1, e1, z1, m1, k1, kA, o1, sm1⟩, ⟨f2, e2, z2, m2, k2, kB, o2, sm2⟩, ⟨f3, e3, z3, m3, k3, kC, o3, sm3⟩, ⟨f4, e4, z4, m4, k4, kD, o4, sm4⟩, hbel⟩ := hcut
          have HTC := Lib.hid (HT5.out.trans (hbel.mono HT5.out.size))
          have hk1 : k1.length ≤ 1000000 := by have h1 := Zs.len_same sm1.1 HN.out.1 sm1.2; have := HSH.out.1; omega
          have hk3 : k3.length ≤ 1000000 := by have h1 := Zs.len_same sm3.1 HN.out.2.2.1 sm3.2; have := HSH.out.2; omega
          have HC1 := Lib.hid (stsame_yes f1 f2 k1 k2 wc (Sl.of_owns o1) (Sl.of_owns o2) hk1 sm1.1 sm2.1 (fun x => by rw [sm1.2, H12.out, ← sm2.2]))
          have HC2 := Lib.hid (fun w2 (hb : Below wc.heap.size wc w2) => stsame_yes f3 f4 k3 k4 w2 ((Sl.of_owns o3).below rfl hb) ((Sl.of_owns o4).below rfl hb) hk3 sm3.1 sm4.1 (fun x => by rw [sm3.2, H34.out, ← sm4.2]))
          rw [← HLEN.out.1] at kB
          rw [← HLEN.out.2] at kD
          rw [HA1.out] at kA
          obtain ⟨N1, hN1⟩ : ∃ N, N = (L1.length : Int) := ⟨_, rfl⟩
          obtain ⟨N3, hN3⟩ : ∃ N, N = (L3.length : Int) := ⟨_, rfl⟩
          rw [← hN1] at kA kB
          rw [← hN3] at kC kD
          have a0 : wc.cell? ⟨A, 0, none⟩ = some (.int .i64 N1) := kA.cell 0 rfl
          have a1 : wc.cell? ⟨A, 1, none⟩ = some f1 := kA.cell 1 rfl
          have b0 : wc.cell? ⟨B, 0, none⟩ = some (.int .i64 N1) := kB.cell 0 rfl
          have b1 : wc.cell? ⟨B, 1, none⟩ = some f2 := kB.cell 1 rfl
          have eN1 : (N1 == N1) = true := by simp
          have eN3 : (N3 == N3) = true := by simp
          have HKA := Lib.hid kA
          have HKC := Lib.hid kC
          have HKD := Lib.hid kD
          have hy3 : n2 = 0 ∨ (ys.all fun x => decide (x ∈ L3)) = false := by
            by_cases h : n2 = 0
            · exact .inl h
            · exact .inr (HA3.out (by rw [HL2.out]; omega))
          clear hN1 hN3 kA kB kC kD hk1 hk3 o1 o2 o3 o4 sm1 sm2 sm3 sm4 hbel
          go_wp2_with fail
          refine HC1.out.mono ?_
          rintro e w6 ⟨rfl, hb6⟩
          have HB6 := Lib.hid hb6
          have d0 : w6.cell? ⟨C, 0, none⟩ = some (.int .i64 N3) := (HKC.out.below hb6 HKC.out.lt).cell 0 rfl
          have d1 : w6.cell? ⟨C, 1, none⟩ = some f3 := (HKC.out.below hb6 HKC.out.lt).cell 1 rfl
          have d2 : w6.cell? ⟨D, 0, none⟩ = some (.int .i64 N3) := (HKD.out.below hb6 HKD.out.lt).cell 0 rfl
          have d3 : w6.cell? ⟨D, 1, none⟩ = some f4 := (HKD.out.below hb6 HKD.out.lt).cell 1 rfl
          clear hb6
          go_wp2_with fail
          refine (HC2.out _ HB6.out).mono ?_
          rintro e w7 ⟨rfl, hb7⟩
          have hb67 := HB6.out.trans (hb7.mono HB6.out.size)
          have g0 : w7.cell? ⟨A, 2, none⟩ = some (.bool true) := (HKA.out.below hb67 HKA.out.lt).cell 2 rfl
          have g1 : w7.cell? ⟨C, 2, none⟩ = some (.bool (ys.all fun x => decide (x ∈ L3))) := (HKC.out.below hb67 HKC.out.lt).cell 2 rfl
          have HT7 := Lib.hid (HTC.out.trans (hb67.mono HTC.out.size))
          clear hb7 hb67
          rcases hy3 with h0 | h0
          · subst h0
            go_wp2_with fail
            go_ret
            exact ⟨rfl, HT7.out⟩
          · rw [h0] at g1
            clear h0
            by_cases hn0 : n2 = 0
            · subst hn0
              go_wp2_with fail
              go_ret
              exact ⟨rfl, HT7.out⟩
            · have hz0 : ((n2 : Int) == 0) = false := by simp; omega
              go_wp2_with fail
              go_ret
              exact ⟨rfl, HT7.out⟩
end Go.Proofs.Ytdmkijdokmnicaa
