/- What spec.AVStep goes through, as plain data. -/
import Derived.Test.YtnfkjcopeljknaaAvFind
import Derived.Test.YtnfkjcopeljknaaAvSaid
import Derived.Deep.DeepCutAuto
namespace Go.Proofs.Ytnfkjcopeljknaa
set_option linter.unusedVariables false
open Go.RowKit Avm

theorem Fr.of0 {F G H : List Nat} {u v w : World} (h : Fr F [] u v) (k : Fr G H v w) (hG : ∀ x ∈ G, x ∈ F ∨ u.heap.size ≤ x) : Fr F [] u w :=
  ⟨k.os.trans h.os, k.tape.trans h.tape, k.output.trans h.output, Nat.le_trans h.size k.size, fun x hx hn => (k.block x (Nat.lt_of_lt_of_le hx h.size) (fun e => by
    rcases hG x e with h1 | h1
    · exact hn h1
    · omega)).trans (h.block x hx hn), fun x hx => by cases hx⟩
theorem Fr.refl0 (F : List Nat) (u : World) : Fr F [] u u := ⟨rfl, rfl, rfl, Nat.le_refl _, fun _ _ _ => rfl, fun _ h => by cases h⟩
theorem Fr.grown0 {F : List Nat} {u v w : World} {a : Value} (h : Fr F [] u v) (hg : v.grownBy w a.ownBlock) (ha : ∀ x ∈ obl a, x ∈ F) : Fr F [] u w :=
  h.of0 (Fr.of_grown (v' := a) hg (fun k hk => .inl hk)) fun x hx => .inl (ha x hx)
theorem Fr.own0 {F : List Nat} {u w : World} (h : Fr F [] u w) {B : Nat} {e : TypeId} {z : Nat} {v : Value} {n : Nat} {xs : List Value} (hk : u.ownsRow B e z v n xs) (h1 : ∀ k ∈ obl v, k ∉ F) : w.ownsRow B e z v n xs := h.own hk h1

def putS (l : Lst) (e : Int × Int) : Lst := delS l e.1 ++ [e]
def stepOne (op : Nat) (l : Lst) (e : Int × Int) : Lst := if op = 3 then l else if op = 1 then putS l e else delS l e.1
def stepL (op : Nat) (l es : Lst) : Lst := es.foldl (stepOne op) l
def stepOs (op : Nat) (l es : Lst) : List (Option (Int × Int)) := (List.range es.length).map fun q => kvO (keyAt es q) (look (stepL op l (es.take q)) (keyAt es q))
theorem stepL_succ (op : Nat) (l es : Lst) (j : Nat) (h : j < es.length) : stepL op l (es.take (j + 1)) = stepOne op (stepL op l (es.take j)) (es.getD j (0, 0)) := by
  unfold stepL
  rw [List.take_succ_eq_append_getElem h, List.foldl_append, List.getD_eq_getElem?_getD, List.getElem?_eq_getElem h]
  rfl
theorem stepOne_len (op : Nat) (l : Lst) (e : Int × Int) : (stepOne op l e).length ≤ l.length + 1 := by
  have h : (delS l e.1).length ≤ l.length := List.length_filter_le _ _
  unfold stepOne putS
  split
  · omega
  · split
    · simp; omega
    · omega
theorem stepL_len (op : Nat) (es : Lst) : ∀ l : Lst, (stepL op l es).length ≤ l.length + es.length := by
  induction es with
  | nil => intro l; exact Nat.le_refl _
  | cons e es ih =>
    intro l
    have h1 := ih (stepOne op l e)
    have h2 := stepOne_len op l e
    show (stepL op (stepOne op l e) es).length ≤ _
    simp only [List.length_cons]
    omega
theorem stepL_three (l es : Lst) : stepL 3 l es = l := by
  induction es with
  | nil => rfl
  | cons e es ih => exact ih
def osK (op : Nat) (l es : Lst) (j : Nat) : List (Option (Int × Int)) := (List.range j).map fun q => kvO (keyAt es q) (look (stepL op l (es.take q)) (keyAt es q))
theorem osK_succ (op : Nat) (l es : Lst) (j : Nat) : osK op l es (j + 1) = osK op l es j ++ [kvO (keyAt es j) (look (stepL op l (es.take j)) (keyAt es j))] := range_snoc _ j

/-- the list at hand: the given one, or an own row that lies apart from what is said -/
def LHand (G : Nat) (op : Nat) (vl : Value) (L : Lst) (q1 : Value) (j : Nat) (s0 : Value) (wr : World) : Prop :=
  ((op = 3 ∨ j = 0) ∧ s0 = vl) ∨ (op ≠ 3 ∧ ∃ q c, s0 = .slice q L.length c ∧ wr.ownsRow G 25 2 s0 L.length (aes L).flatten ∧ ∀ k, s0.ownBlock = some k → q1.ownBlock ≠ some k)
def StepLoop (op : Nat) (vl : Value) (l es : Lst) (bx : Array Value) (G R X n : Nat) (w : World) (k : Nat) (s0 idx : Value) (wr : World) : Prop :=
  ∃ (j : Nat) (q1 : Option Addr) (c1 : Nat) (q2 : Option Addr) (c2 : Nat) (a0 : Option Addr) (n0 c0 : Nat), s0 = .slice a0 n0 c0 ∧ idx = .int .i64 (j : Int) ∧ j + k = n ∧ Blk wr X 36 #[.int .i64 0, .slice q1 j c1, .slice q2 j c2] ∧
    wr.ownsRow G 25 2 (.slice q1 j c1) j (aes ((osK op l es j).map oget)).flatten ∧ wr.ownsRow G 4 1 (.slice q2 j c2) j (bvs ((osK op l es j).map Option.isSome)) ∧
    Blk wr R 36 #[.int .i64 0, .slice none 0 0, .slice none 0 0] ∧ Blk wr G 32 bx ∧ LHand G op vl (stepL op l (es.take j)) (.slice q1 j c1) j s0 wr ∧ Below G w wr
theorem LHand.rw {G op : Nat} {vl : Value} {l es : Lst} {q1 : Value} {j : Nat} {s0 : Value} {w wr : World} (h : LHand G op vl (stepL op l (es.take j)) q1 j s0 wr) (hv : Rw 2 w vl (aes l)) (hG : G = w.heap.size) (hb : Below G w wr) : Rw 2 wr s0 (aes (stepL op l (es.take j))) := by
  rcases h with ⟨h1, rfl⟩ | ⟨_, q, c, rfl, h1, _⟩
  · have : stepL op l (es.take j) = l := by
      rcases h1 with rfl | rfl
      · exact stepL_three _ _
      · rfl
    rw [this]
    exact hv.below hG hb
  · exact Rw.of_owns (aes_two _) (by decide) h1
theorem LHand.fr {G op : Nat} {vl : Value} {L : Lst} {q1 : Value} {j : Nat} {s0 : Value} {wr wr' : World} {F : List Nat} (h : LHand G op vl L q1 j s0 wr) (hf : Fr F [] wr wr') (h1 : ∀ n xs, wr.ownsRow G 25 2 s0 n xs → (∀ k, s0.ownBlock = some k → q1.ownBlock ≠ some k) → ∀ k ∈ obl s0, k ∉ F) : LHand G op vl L q1 j s0 wr' := by
  rcases h with h | ⟨h0, q, c, e, h2, h3⟩
  · exact .inl h
  · exact .inr ⟨h0, q, c, e, hf.own h2 (h1 _ _ h2 h3), h3⟩

/-- behind the round's answers -/
def StepMid (op : Nat) (vl : Value) (l es : Lst) (bx : Array Value) (G R X j E8 : Nat) (k0 v0 : Int) (s0 : Value) (w wx : World) : Prop :=
  ∃ (q1 : Option Addr) (c1 : Nat) (q2 : Option Addr) (c2 : Nat), Blk wx X 36 #[.int .i64 0, .slice q1 (j + 1) c1, .slice q2 (j + 1) c2] ∧
    wx.ownsRow G 25 2 (.slice q1 (j + 1) c1) (j + 1) (aes ((osK op l es (j + 1)).map oget)).flatten ∧ wx.ownsRow G 4 1 (.slice q2 (j + 1) c2) (j + 1) (bvs ((osK op l es (j + 1)).map Option.isSome)) ∧
    Blk wx R 36 #[.int .i64 0, .slice none 0 0, .slice none 0 0] ∧ Blk wx G 32 bx ∧ Blk wx E8 25 #[.int .i64 k0, .int .i64 v0] ∧ Rw 2 wx s0 (aes (stepL op l (es.take j))) ∧ Below G w wx
theorem step_mid {op : Nat} {vl : Value} {l es : Lst} {bx : Array Value} {G R X j E8 : Nat} {k0 v0 : Int} {s0 : Value} {w wa wy : World} {F : List Nat} {q1 q2 : Value} {p9 p8 : Option Addr} {m9 c9 m8 c8 n9 n8 : Nat} {x9 x8 : List Value}
    (hf : Fr F [] wa wy) (hx : Blk wa X 36 #[.int .i64 0, q1, q2]) (hr : Blk wa R 36 #[.int .i64 0, .slice none 0 0, .slice none 0 0]) (hbx : Blk wa G 32 bx) (he : Blk wa E8 25 #[.int .i64 k0, .int .i64 v0])
    (hF : ∀ k, k ∈ F ↔ (q1.ownBlock = some k ∨ q2.ownBlock = some k)) (d1 : q1.ownBlock ≠ some X) (d2 : q2.ownBlock ≠ some X) (d3 : q1.ownBlock ≠ some R) (d4 : q2.ownBlock ≠ some R) (d5 : q1.ownBlock ≠ some G) (d6 : q2.ownBlock ≠ some G) (d7 : q1.ownBlock ≠ some E8) (d8 : q2.ownBlock ≠ some E8)
    (hFG : ∀ k ∈ F, G ≤ k) (hE8 : E8 ≠ X) (hRX : R ≠ X) (hGX : G ≠ X) (hGX' : G ≤ X) (hl : LHand G op vl (stepL op l (es.take j)) q1 j s0 wa) (hsep : ∀ n xs, wa.ownsRow G 25 2 s0 n xs → ∀ k ∈ obl s0, q2.ownBlock ≠ some k) (hv : Rw 2 w vl (aes l)) (hG : G = w.heap.size) (hb : Below G w wa)
    (ho1 : wy.ownsRow G 25 2 (.slice p9 m9 c9) n9 x9) (ho2 : wy.ownsRow G 4 1 (.slice p8 m8 c8) n8 x8)
    (s1 : n9 = j + 1 ∧ (aes ((osK op l es (j + 1)).map oget)).flatten = x9) (s2 : n8 = j + 1 ∧ bvs ((osK op l es (j + 1)).map Option.isSome) = x8) :
    StepMid op vl l es bx G R X j E8 k0 v0 s0 w ((wy.setCell ⟨X, 1, none⟩ (.slice p9 m9 c9)).setCell ⟨X, 2, none⟩ (.slice p8 m8 c8)) ∧ StepMid op vl l es bx G R X j E8 k0 v0 s0 w ((wy.setCell ⟨X, 2, none⟩ (.slice p8 m8 c8)).setCell ⟨X, 1, none⟩ (.slice p9 m9 c9)) := by
  obtain ⟨e1, e2⟩ := s1
  obtain ⟨e3, e4⟩ := s2
  have l1 := own_n ho1
  have l2 := own_n ho2
  subst e1 e3 l1 l2
  rw [← e2] at ho1
  rw [← e4] at ho2
  have nF : ∀ x, q1.ownBlock ≠ some x → q2.ownBlock ≠ some x → x ∉ F := fun x h1 h2 h3 => by
    rcases (hF x).1 h3 with h | h
    · exact h1 h
    · exact h2 h
  have hxy := hf.blk hx (nF _ d1 d2)
  have hry := hf.blk hr (nF _ d3 d4)
  have hby := hf.blk hbx (nF _ d5 d6)
  have hey := hf.blk he (nF _ d7 d8)
  have hGa : G ≤ wa.heap.size := by have := hb.size; omega
  have hBy : Below G w wy := hb.trans (hf.below hFG hGa)
  have hly : LHand G op vl (stepL op l (es.take j)) q1 j s0 wy := hl.fr hf fun n xs ho hd k hk => nF k (hd k (mem_obl.1 hk)) (hsep n xs ho k hk)
  have k1 := Fr.store wy (F := [X]) (a := ⟨X, 1, none⟩) (by simp) (.slice p9 (j + 1) c9)
  have k2 := Fr.store (wy.setCell ⟨X, 1, none⟩ (.slice p9 (j + 1) c9)) (F := [X]) (a := ⟨X, 2, none⟩) (by simp) (.slice p8 (j + 1) c8)
  have k3 := Fr.store wy (F := [X]) (a := ⟨X, 2, none⟩) (by simp) (.slice p8 (j + 1) c8)
  have k4 := Fr.store (wy.setCell ⟨X, 2, none⟩ (.slice p8 (j + 1) c8)) (F := [X]) (a := ⟨X, 1, none⟩) (by simp) (.slice p9 (j + 1) c9)
  have ka := k1.trans k2
  have kb := k3.trans k4
  have n1 : ∀ k ∈ obl (.slice p9 (j + 1) c9), k ∉ [X] := fun k hk e => by
    rw [List.mem_singleton] at e
    subst e
    exact row_blk ho1 hxy (by decide) (mem_obl.1 hk)
  have n2 : ∀ k ∈ obl (.slice p8 (j + 1) c8), k ∉ [X] := fun k hk e => by
    rw [List.mem_singleton] at e
    subst e
    exact row_blk ho2 hxy (by decide) (mem_obl.1 hk)
  have n3 : R ∉ [X] := by simpa using hRX
  have n4 : G ∉ [X] := by simpa using hGX
  have n5 : E8 ∉ [X] := by simpa using hE8
  have hG2 : ∀ k ∈ [X], G ≤ k := fun k hk => by rw [List.mem_singleton.1 hk]; exact hGX'
  have hGy : G ≤ wy.heap.size := by have := hBy.size; omega
  have nl : ∀ n xs, wy.ownsRow G 25 2 s0 n xs → (∀ k, s0.ownBlock = some k → q1.ownBlock ≠ some k) → ∀ k ∈ obl s0, k ∉ [X] := fun n xs ho _ k hk e => by
    rw [List.mem_singleton] at e
    subst e
    exact row_blk ho hxy (by decide) (mem_obl.1 hk)
  have w0 : ∀ {F' : List Nat} {wz : World}, Fr [X] F' wy wz → Fr [X] [] wy wz := fun h => ⟨h.os, h.tape, h.output, h.size, h.block, fun _ h => by cases h⟩
  have Ba : Below G w _ := hBy.trans (ka.below hG2 hGy)
  have Bb : Below G w _ := hBy.trans (kb.below hG2 hGy)
  exact ⟨⟨p9, c9, p8, c8, (hxy.set 1 _).set 2 _, ka.own ho1 n1, ka.own ho2 n2, ka.blk hry n3, ka.blk hby n4, ka.blk hey n5, (hly.fr (w0 ka) nl).rw hv hG Ba, Ba⟩, ⟨p9, c9, p8, c8, (hxy.set 2 _).set 1 _, kb.own ho1 n1, kb.own ho2 n2, kb.blk hry n3, kb.blk hby n4, kb.blk hey n5, (hly.fr (w0 kb) nl).rw hv hG Bb, Bb⟩⟩
theorem by_mid2 {P M : World → Prop} {wx : World} (h : M wx) (h2 : ∀ wx, M wx → P wx) : P wx := h2 wx h
/-- what spec.AVStep does -/
def AvStepC : Prop := ∀ (vl : Value) (l es : Lst) (op frm : Nat) (ve : Value) (w : World) (hv : Rw 2 w vl (aes l)) (he : Rw 2 w ve (aes es)) (hn : es.length ≤ 100) (hL : l.length ≤ 50000) (hop : 1 ≤ op) (hop3 : op ≤ 3),
    Calls Try.prog 18 #[vl, .agg #[.int .i64 (op : Int), .int .i64 (frm : Int), ve]] w fun e w' => ∃ v' q1 c1 q2 c2, e = .returned (.tuple #[v', .agg #[.int .i64 ((stepL op l es).length : Int), .slice q1 es.length c1, .slice q2 es.length c2]]) ∧ Rw 2 w' v' (aes (stepL op l es)) ∧ (op ≠ 3 → 0 < es.length → w'.ownsRow w.heap.size 25 2 v' (stepL op l es).length (aes (stepL op l es)).flatten) ∧
      w'.ownsRow w.heap.size 25 2 (.slice q1 es.length c1) es.length (aes ((osK op l es es.length).map oget)).flatten ∧ w'.ownsRow w.heap.size 4 1 (.slice q2 es.length c2) es.length (bvs ((osK op l es es.length).map Option.isSome)) ∧ Below w.heap.size w w'
end Go.Proofs.Ytnfkjcopeljknaa
