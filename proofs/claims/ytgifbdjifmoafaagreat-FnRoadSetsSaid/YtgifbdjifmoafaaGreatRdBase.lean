/- The texts on bitsets that the law FnRoadSets wants (printed by gen_road.py). -/
import Derived.Test.YtgifbdjifmoafaaGreatRows
import Derived.Test.YtgifbdjifmoafaaGreatSl
import Derived.WalkSpells
import Derived.WalkLawsBesides
import Derived.Deep.LoopGhost
import Derived.BigQuiet
import Derived.Deep.QuietTactic
import Derived.Defers
import Derived.Recover
import Derived.StillTailTactics
import Derived.Lib.SliceRun
import Derived.Test.YtgifbdjifmoafaaGreatBits
import Derived.Deep.RegionHeld3
section
namespace Go.Proofs.YtgifbdjifmoafaaGreat.Bsm
set_option linter.unusedVariables false

/-- the places below i whose bit is set -/
def posn (bs : List Bool) : Nat → List Nat
  | 0 => []
  | i + 1 => posn bs i ++ (if bs.getD i false = true then [i] else [])
def pos (bs : List Bool) : List Nat := posn bs bs.length

theorem mem_posn (bs : List Bool) (i j : Nat) : j ∈ posn bs i ↔ j < i ∧ bs.getD j false = true := by
  induction i with
  | zero => simp [posn]
  | succ i ih =>
    simp only [posn, List.mem_append, ih]
    by_cases h : bs.getD i false = true
    · rw [if_pos h]
      simp only [List.mem_singleton]
      constructor
      · rintro (h1 | rfl)
        · exact ⟨by omega, h1.2⟩
        · exact ⟨by omega, h⟩
      · rintro ⟨h1, h2⟩
        by_cases e : j = i
        · exact .inr e
        · exact .inl ⟨by omega, h2⟩
    · rw [if_neg h]
      simp only [List.not_mem_nil, or_false]
      constructor
      · rintro ⟨h1, h2⟩; exact ⟨by omega, h2⟩
      · rintro ⟨h1, h2⟩
        exact ⟨by
          by_cases e : j = i
          · subst e; exact absurd h2 h
          · omega, h2⟩

theorem posn_len (bs : List Bool) (i : Nat) : (posn bs i).length ≤ i := by
  induction i with
  | zero => simp [posn]
  | succ i ih => simp only [posn, List.length_append]; split <;> simp <;> omega

theorem getD_out (bs : List Bool) (i : Nat) (h : bs.length ≤ i) : bs.getD i false = false := by
  simp [List.getD_eq_getElem?_getD, List.getElem?_eq_none h]

theorem mem_pos (bs : List Bool) (j : Nat) : j ∈ pos bs ↔ bs.getD j false = true := by
  unfold pos
  rw [mem_posn]
  constructor
  · exact fun h => h.2
  · intro h
    refine ⟨?_, h⟩
    by_cases e : j < bs.length
    · exact e
    · rw [getD_out bs j (by omega)] at h; cases h

theorem posn_lt (bs : List Bool) (i : Nat) : ∀ x ∈ posn bs i, x < i := fun x hx => ((mem_posn bs i x).1 hx).1

theorem pos_lt (bs : List Bool) : ∀ x ∈ pos bs, x < bs.length := posn_lt bs _

/-- positions depend on the bits alone -/
theorem posn_congr (bs cs : List Bool) (i : Nat) (h : ∀ j, j < i → bs.getD j false = cs.getD j false) : posn bs i = posn cs i := by
  induction i with
  | zero => rfl
  | succ i ih => simp only [posn]; rw [ih (fun j hj => h j (by omega)), h i (by omega)]

/-- ascending -/
theorem posn_sorted (bs : List Bool) (i : Nat) : (posn bs i).Pairwise (· < ·) := by
  induction i with
  | zero => exact List.Pairwise.nil
  | succ i ih =>
    simp only [posn]
    split
    · rw [List.pairwise_append]
      refine ⟨ih, List.pairwise_singleton _ _, ?_⟩
      intro a ha b hb
      rw [List.mem_singleton] at hb
      subst hb
      exact posn_lt bs _ a ha
    · simpa using ih

/-- the bits that the first k places set -/
def fill (L : Nat) (ps : List Nat) : Nat → List Bool
  | 0 => List.replicate L false
  | k + 1 => (fill L ps k).set (ps.getD k 0) true

theorem fill_len (L : Nat) (ps : List Nat) (k : Nat) : (fill L ps k).length = L := by
  induction k with
  | zero => simp [fill]
  | succ k ih => simp [fill, ih]

theorem fill_get (L : Nat) (ps : List Nat) (k : Nat) (hk : k ≤ ps.length) (j : Nat) (hj : j < L) : (fill L ps k).getD j false = decide (j ∈ ps.take k) := by
  induction k with
  | zero => simp [fill, List.getD_eq_getElem?_getD, hj]
  | succ k ih =>
    have ih' := ih (by omega)
    simp only [fill, List.getD_eq_getElem?_getD] at ih' ⊢
    have hkl : k < ps.length := by omega
    have hget : ps[k]?.getD 0 = ps[k] := by simp [hkl]
    rw [hget, List.take_succ_eq_append_getElem hkl]
    by_cases e : ps[k] = j
    · subst e
      rw [List.getElem?_set_self (by rw [fill_len]; exact hj)]
      simp only [List.mem_append, List.mem_singleton, Option.getD_some]
      simp
    · rw [List.getElem?_set_ne e, ih', Bool.eq_iff_iff, decide_eq_true_eq, decide_eq_true_eq]
      simp only [List.mem_append, List.mem_singleton]
      constructor
      · exact fun h => .inl h
      · rintro (h | h)
        · exact h
        · exact absurd h.symm e

theorem ext_getD (a b : List Bool) (hl : a.length = b.length) (h : ∀ j, j < a.length → a.getD j false = b.getD j false) : a = b := by
  apply List.ext_getElem hl
  intro j h1 h2
  have := h j h1
  simpa [h1, h2] using this

theorem fill_pos (bs : List Bool) : fill bs.length (pos bs) (pos bs).length = bs := by
  apply ext_getD _ _ (fill_len _ _ _)
  intro j hj
  rw [fill_len] at hj
  rw [fill_get _ _ _ (Nat.le_refl _) j hj, List.take_length]
  rw [Bool.eq_iff_iff, decide_eq_true_eq, mem_pos]

theorem pos_getD_lt (bs : List Bool) (k : Nat) (hk : k < (pos bs).length) : (pos bs).getD k 0 < bs.length := by
  have : (pos bs).getD k 0 ∈ pos bs := by simp [hk]
  exact pos_lt bs _ this

theorem pos_len_le (bs : List Bool) : (pos bs).length ≤ bs.length := posn_len _ _

/-- 'BSGrow' -/
def grow (bs : List Bool) (n : Nat) : List Bool := bs ++ List.replicate (n - bs.length) false

theorem grow_get (bs : List Bool) (n j : Nat) : (grow bs n).getD j false = bs.getD j false := by
  unfold grow
  simp only [List.getD_eq_getElem?_getD, List.getElem?_append]
  split
  · rfl
  · rename_i h
    rw [List.getElem?_eq_none (l := bs) (by omega)]
    by_cases h2 : j - bs.length < n - bs.length
    · simp [h2]
    · simp [h2]
theorem grow_len (bs : List Bool) (n : Nat) : (grow bs n).length = max bs.length n := by
  unfold grow; simp; omega


/-- bit j of some words -/
def bit (ws : List Nat) (j : Nat) : Bool := (ws.getD (j / 64) 0).testBit (j % 64)
/-- one word is changed -/
def upd (f : Nat → Nat) (ws : List Nat) (i : Nat) : List Nat := ws.set (i / 64) (f (ws.getD (i / 64) 0))

theorem upd_len (f : Nat → Nat) (ws : List Nat) (i : Nat) : (upd f ws i).length = ws.length := by simp [upd]

theorem bit_upd (f : Nat → Nat) (ws : List Nat) (i : Nat) (hi : i / 64 < ws.length) (j : Nat) :
    bit (upd f ws i) j = if j / 64 = i / 64 then (f (ws.getD (i / 64) 0)).testBit (j % 64) else bit ws j := by
  unfold bit upd
  simp only [List.getD_eq_getElem?_getD]
  by_cases h : j / 64 = i / 64
  · rw [if_pos h, h, List.getElem?_set_self hi]; rfl
  · rw [if_neg h, List.getElem?_set_ne (fun e => h e.symm)]

theorem mod_eq (i j : Nat) (h : j / 64 = i / 64) : (i % 64 = j % 64) ↔ j = i := by omega

/-- setting, turning and clearing a bit -/
def orw (ws : List Nat) (i : Nat) : List Nat := upd (fun x => x ||| 2 ^ (i % 64)) ws i
def xorw (ws : List Nat) (i : Nat) : List Nat := upd (fun x => x ^^^ 2 ^ (i % 64)) ws i

theorem bit_orw (ws : List Nat) (i : Nat) (hi : i / 64 < ws.length) (j : Nat) : bit (orw ws i) j = (bit ws j || decide (j = i)) := by
  unfold orw
  rw [bit_upd _ _ _ hi]
  split
  · rename_i h
    rw [Nat.testBit_or, Nat.testBit_two_pow]
    unfold bit
    rw [h]
    congr 1
    rw [decide_eq_decide]
    exact mod_eq i j h
  · rename_i h
    have : j ≠ i := fun e => h (by rw [e])
    simp [this]
theorem bit_xorw (ws : List Nat) (i : Nat) (hi : i / 64 < ws.length) (j : Nat) : bit (xorw ws i) j = (bit ws j ^^ decide (j = i)) := by
  unfold xorw
  rw [bit_upd _ _ _ hi]
  split
  · rename_i h
    rw [Nat.testBit_xor, Nat.testBit_two_pow]
    unfold bit
    rw [h]
    congr 1
    rw [decide_eq_decide]
    exact mod_eq i j h
  · rename_i h
    have : j ≠ i := fun e => h (by rw [e])
    simp [this]

theorem bit_zeros (n j : Nat) : bit (List.replicate n 0) j = false := by
  unfold bit
  have : (List.replicate n 0).getD (j / 64) 0 = 0 := by
    simp only [List.getD_eq_getElem?_getD, List.getElem?_replicate]
    split <;> rfl
  rw [this, Nat.zero_testBit]

theorem bit_append_zeros (ws : List Nat) (n j : Nat) : bit (ws ++ List.replicate n 0) j = bit ws j := by
  unfold bit
  congr 1
  simp only [List.getD_eq_getElem?_getD, List.getElem?_append]
  split
  · rfl
  · rename_i h
    rw [List.getElem?_eq_none (l := ws) (by omega), List.getElem?_replicate]
    split <;> rfl

/-- the bits of a bitset of length L -/
def bitsOf (ws : List Nat) (L : Nat) : List Bool := (List.range L).map (bit ws)
theorem bitsOf_len (ws : List Nat) (L : Nat) : (bitsOf ws L).length = L := by simp [bitsOf]
theorem bitsOf_get (ws : List Nat) (L j : Nat) : (bitsOf ws L).getD j false = (decide (j < L) && bit ws j) := by
  unfold bitsOf
  simp only [List.getD_eq_getElem?_getD, List.getElem?_map, List.getElem?_range']
  by_cases h : j < L
  · simp [h]
  · simp [h]

end Go.Proofs.YtgifbdjifmoafaaGreat.Bsm
end
section
namespace Go.Proofs.YtgifbdjifmoafaaGreat
set_option linter.unusedVariables false
open Go.RowKit


theorem rb_info_u64 : (Tryz.prog.info? 36).map (fun i => (i.zero, i.size, i.bytes)) = some (some (.int .u64 0), 1, 8) := by kernel_rfl
theorem info_bool : (Tryz.prog.info? 4).map (fun i => (i.zero, i.size, i.bytes)) = some (some (.bool false), 1, 1) := by kernel_rfl

theorem ownsRow_weaken {w : World} {B B' : Nat} {e : TypeId} {size : Nat} {v : Value} {n : Nat} {xs : List Value} (h : w.ownsRow B e size v n xs) (hB : B' ≤ B) : w.ownsRow B' e size v n xs := by
  refine ⟨h.1, ?_⟩
  rcases h.2 with h2 | ⟨g, cap, cur, hv, hg, r⟩
  · exact .inl h2
  · exact .inr ⟨g, cap, cur, hv, Nat.le_trans hB hg, r⟩

def rb_u64s (l : List Nat) : List Value := l.map fun (x : Nat) => Value.int .u64 (x : Int)
theorem rb_u64s_len (l : List Nat) : (rb_u64s l).length = l.length := by simp [rb_u64s]
theorem rb_u64s_at (l : List Nat) (i : Nat) (h : i < l.length) : (rb_u64s l)[i]? = some (.int .u64 ((l.getD i 0 : Nat) : Int)) := by
  simp [rb_u64s, List.getElem?_eq_getElem h]
theorem rb_u64s_append (l : List Nat) (x : Nat) : rb_u64s (l ++ [x]) = rb_u64s l ++ [.int .u64 (x : Int)] := by simp [rb_u64s]
def rb_bools (l : List Bool) : List Value := l.map Value.bool
theorem bools_len (l : List Bool) : (rb_bools l).length = l.length := by simp [rb_bools]
theorem bools_at (l : List Bool) (i : Nat) (h : i < l.length) : (rb_bools l)[i]? = some (.bool (l.getD i false)) := by
  simp [rb_bools, List.getElem?_eq_getElem h]

/-- v is an impl.Bits with the length and the places of bs -/
def IsBits (w : World) (v : Value) (bs : List Bool) : Prop := ∃ s, v = .agg #[.int .u64 (bs.length : Int), s] ∧ Sl w s (rb_u64s (Bsm.pos bs))
/-- the same, the places in memory from block B on that the call made -/
def OwnBits (B : Nat) (w : World) (v : Value) (bs : List Bool) : Prop := ∃ p m cap, v = .agg #[.int .u64 (bs.length : Int), .slice p m cap] ∧ w.ownsRow B 36 1 (.slice p m cap) (Bsm.pos bs).length (rb_u64s (Bsm.pos bs))
theorem OwnBits.is {B : Nat} {w : World} {v : Value} {bs : List Bool} (h : OwnBits B w v bs) : IsBits w v bs := by
  obtain ⟨p, m, cap, rfl, h⟩ := h
  exact ⟨_, rfl, Sl.of_owns h⟩
theorem OwnBits.set {B : Nat} {w : World} {v : Value} {bs : List Bool} (h : OwnBits B w v bs) {a : Addr} (ha : a.block < B) (u : Value) : OwnBits B (w.setCell a u) v bs := by
  obtain ⟨p, m, cap, rfl, h⟩ := h
  exact ⟨p, m, cap, rfl, ownsRow_setCell_below h ha u⟩
theorem OwnBits.weaken {B B' : Nat} {w : World} {v : Value} {bs : List Bool} (h : OwnBits B w v bs) (hB : B' ≤ B) : OwnBits B' w v bs := by
  obtain ⟨p, m, cap, rfl, h⟩ := h
  exact ⟨p, m, cap, rfl, ownsRow_weaken h hB⟩
theorem IsBits.drew {w : World} {v : Value} {bs : List Bool} (h : IsBits w v bs) : IsBits w.drew v bs := by
  obtain ⟨s, rfl, a, n, cap, rfl, h1, h2, h3, h4⟩ := h
  exact ⟨_, rfl, a, n, cap, rfl, h1, h2, h3, h4⟩
theorem IsBits.below {w w' : World} {v : Value} {bs : List Bool} {B : Nat} (h : IsBits w v bs) (hB : B = w.heap.size) (hb : Below B w w') : IsBits w' v bs := by
  obtain ⟨s, rfl, h⟩ := h
  exact ⟨s, rfl, h.below hB hb⟩

/-- the loop of BSList -/
def ListRel (xs ys : List Nat) (w : World) (n k : Nat) (idx : Value) (wr : World) : Prop :=
  ∃ i : Nat, idx = .int .i64 (i : Int) ∧ i + k = n ∧ (∀ j, j < i → xs.getD j 0 = ys.getD j 0) ∧ ∃ nq, wr = w.drewN nq

theorem list_eq (xs ys : List Nat) (hl : xs.length = ys.length) (h : ∀ j, j < xs.length → xs.getD j 0 = ys.getD j 0) : xs = ys := by
  apply List.ext_getElem hl
  intro j h1 h2
  have := h j h1
  simpa [h1, h2] using this

theorem empty_own (w : World) (B : Nat) (e : TypeId) (hB : B ≤ w.heap.size) : (w.alloc (.cells #[] e)).ownsRow B e 1 (.slice (some ⟨w.heap.size, 0, none⟩) 0 0) 0 [] :=
  World.ownsRow_made w #[] 0 hB (Nat.zero_le _) rfl

/-- the loop of BSMake -/
def MakeRel (bs : List Bool) (w : World) (n k : Nat) (idx : Value) (wr : World) : Prop :=
  ∃ (i : Nat) (p : Option Addr) (m cap : Nat) (s : Value), s = .slice p m cap ∧ idx = .int .i64 (i : Int) ∧ i + k = n ∧ Blk wr (w.heap.size + 1) 39 #[.int .u64 (n : Int), s] ∧ Blk wr w.heap.size 39 #[.int .u64 0, .slice none 0 0] ∧
    wr.ownsRow (w.heap.size + 2) 36 1 s (Bsm.posn bs i).length (rb_u64s (Bsm.posn bs i)) ∧ Below w.heap.size w wr ∧ w.heap.size + 2 ≤ wr.heap.size

end Go.Proofs.YtgifbdjifmoafaaGreat
end
section
namespace Go.Proofs.YtgifbdjifmoafaaGreat
set_option linter.unusedVariables false
open Go.RowKit

theorem ownsRow_len {w : World} {B : Nat} {e : TypeId} {size : Nat} {p : Option Addr} {m cap n : Nat} {xs : List Value} (h : w.ownsRow B e size (.slice p m cap) n xs) : m = n := by
  rcases h.2 with ⟨h2, h3⟩ | ⟨g, cap, cur, hv, _⟩
  · simp at h2; omega
  · simp at hv; omega
theorem bools_snoc (bs : List Bool) (i : Nat) : rb_bools (bs ++ List.replicate i false) ++ [.bool false] = rb_bools (bs ++ List.replicate (i + 1) false) := by
  simp [rb_bools, List.replicate_succ']
theorem bool_cells (bs : List Bool) : ∀ u ∈ rb_bools bs, u.oneCell' = true := by
  intro u hu
  obtain ⟨x, _, rfl⟩ := List.mem_map.1 hu
  rfl

/-- the loop of BSBools -/
def BoolsRel (bs : List Bool) (s : Value) (w : World) (L n k : Nat) (idx : Value) (wr : World) : Prop :=
  ∃ (i : Nat), idx = .int .i64 (i : Int) ∧ i + k = n ∧ Blk wr w.heap.size 39 #[.int .u64 (L : Int), s] ∧
    wr.ownsRow (w.heap.size + 1) 4 1 (.slice (some ⟨w.heap.size + 1, 0, none⟩) L L) L (rb_bools (Bsm.fill L (Bsm.pos bs) i)) ∧ Below w.heap.size w wr

/-- the loop of BSGrow -/
def GrowRel (bs : List Bool) (n l : Nat) (w : World) (k : Nat) (sv : Value) (wr : World) : Prop :=
  ∃ (i : Nat) (p : Option Addr) (cap : Nat), sv = .slice p (l + i) cap ∧ n - (l + i) = k ∧ (i ≠ 0 → l + i ≤ n) ∧
    wr.ownsRow w.heap.size 4 1 (.slice p (l + i) cap) (l + i) (rb_bools (bs ++ List.replicate i false)) ∧ Below w.heap.size w wr ∧ w.heap.size ≤ wr.heap.size

/-- 'BSPut' where it grows if it has to (how is 1 or 2), and where it does not (how is 0) -/
def putAt (how : Nat) (b : List Bool) (i : Nat) : Bool := how == 1 || (how == 2 && !(b.getD i false))
def put (how : Nat) (b : List Bool) (f : Nat) : Nat → List Bool
  | 0 => b
  | k + 1 => (put how b f k).set (f + k) (putAt how b (f + k))

theorem put_len (how : Nat) (b : List Bool) (f k : Nat) : (put how b f k).length = b.length := by
  induction k with
  | zero => rfl
  | succ k ih => simp [put, ih]

/-- the loop of BSPut over b from f: i rounds are done -/
def PutRel (how : Nat) (b : List Bool) (f top : Nat) (g : Nat) (cap : Nat) (w0 : World) (B : Nat) (k : Nat) (idx : Value) (wr : World) : Prop :=
  ∃ i : Nat, idx = .int .i64 ((f + i : Nat) : Int) ∧ f + i + k = max f top ∧
    wr.ownsRow B 4 1 (.slice (some ⟨g, 0, none⟩) b.length cap) b.length (rb_bools (put how b f i)) ∧ Below B w0 wr

end Go.Proofs.YtgifbdjifmoafaaGreat
end
section
namespace Go.Proofs.YtgifbdjifmoafaaGreat
set_option linter.unusedVariables false
open Go.RowKit

/-- the bits that BSPut goes over -/
def base (how : Nat) (bs : List Bool) (t : Nat) : List Bool := if how = 0 then bs else Bsm.grow bs t

theorem ownsRow_some {w : World} {B : Nat} {e : TypeId} {size : Nat} {p : Option Addr} {m cap n : Nat} {xs : List Value} (h : w.ownsRow B e size (.slice p m cap) n xs) (hn : 0 < n) : ∃ g, p = some ⟨g, 0, none⟩ ∧ B ≤ g := by
  rcases h.2 with ⟨h2, h3⟩ | ⟨g, cap, cur, hv, hg, _⟩
  · omega
  · simp at hv; exact ⟨g, hv.1, hg⟩

theorem putAt0 (b : List Bool) (i : Nat) : putAt 0 b i = false := rfl
theorem putAt1 (b : List Bool) (i : Nat) : putAt 1 b i = true := rfl
theorem putAt2 (b : List Bool) (i : Nat) : putAt 2 b i = !(b.getD i false) := rfl

def PutLoop (how : Nat) (b : List Bool) (f N : Nat) (p : Option Addr) (m cap : Nat) (W : World) (k : Nat) (idx : Value) (wr : World) : Prop :=
  ∃ i : Nat, idx = .int .i64 ((f : Int) + (i : Int)) ∧ i + k = N ∧
    wr.ownsRow W.heap.size 4 1 (.slice p m cap) m (rb_bools (put how b f i)) ∧ Below W.heap.size W wr

end Go.Proofs.YtgifbdjifmoafaaGreat
end
section
namespace Go.Proofs.YtgifbdjifmoafaaGreat
set_option linter.unusedVariables false
open Go.RowKit

/-- an impl.Bits that came in: any length, any places -/
def AnyBits (w : World) (v : Value) : Prop := ∃ (L : Nat) (s : Value) (xs : List Nat), v = .agg #[.int .u64 (L : Int), s] ∧ L < 18446744073709551616 ∧ Sl w s (rb_u64s xs) ∧ ∀ x ∈ xs, x < 18446744073709551616

theorem AnyBits.below {w w' : World} {v : Value} {B : Nat} (h : AnyBits w v) (hB : B = w.heap.size) (hb : Below B w w') : AnyBits w' v := by
  obtain ⟨L, s, xs, rfl, h1, h2, h3⟩ := h
  exact ⟨L, s, xs, rfl, h1, h2.below hB hb, h3⟩

def BitsLoop (n : Nat) (L : Nat) (s : Value) (w : World) (k : Nat) (idx : Value) (wr : World) : Prop :=
  ∃ (i : Nat) (bs : List Bool), idx = .int .i64 (i : Int) ∧ i + k = 1000 ∧ bs.length = n ∧ Blk wr w.heap.size 39 #[.int .u64 (L : Int), s] ∧
    Blk wr (w.heap.size + 1) 39 #[.int .u64 0, .slice none 0 0] ∧
    wr.ownsRow (w.heap.size + 2) 4 1 (.slice (some ⟨w.heap.size + 1 + 1, 0, none⟩) n n) n (rb_bools bs) ∧ Below w.heap.size w wr ∧ w.heap.size + 2 ≤ wr.heap.size

theorem bools_set (bs : List Bool) (i : Nat) (b : Bool) : (rb_bools bs).set i (.bool b) = rb_bools (bs.set i b) := by simp [rb_bools, List.map_set]

end Go.Proofs.YtgifbdjifmoafaaGreat
end
section
namespace Go.Proofs.YtgifbdjifmoafaaGreat
set_option linter.unusedVariables false
open Go.RowKit

/-- a *BitSet at block p: its length, its words, in memory from block B on; the slice's capacity is cap -/
def Bs (B : Nat) (w : World) (p L : Nat) (ws : List Nat) (cap : Nat) : Prop :=
  ∃ g, B ≤ p ∧ g ≠ p ∧ Blk w p 67 #[.int .u64 (L : Int), .slice (some ⟨g, 0, none⟩) ws.length cap] ∧
    w.ownsRow B 25 1 (.slice (some ⟨g, 0, none⟩) ws.length cap) ws.length (rb_u64s ws) ∧ ∀ x ∈ ws, x < 18446744073709551616

theorem info_w64 : (Tryz.prog.info? 25).map (fun i => (i.zero, i.size, i.bytes)) = some (some (.int .u64 0), 1, 8) := by kernel_rfl

set_option maxHeartbeats 400000 in
theorem needed_any (L : Int) (w : World) (h0 : 0 ≤ L) (hL : L ≤ 1000000) :
    Calls Tryz.prog 39 #[.int .u64 L] w fun e w' => e = .returned (.int .i64 ((L + 63) / 64)) ∧ w = w' := by
  go_enter Tryz.func39, Tryz.ntmps39
  go_wp2
  go_ret
  exact ⟨rfl, rfl⟩

theorem new_idle (p : Addr) (w : World) :
    CallsD Tryz.prog 38 #[.pointer (some p)] .returning w fun e u' w' => e = .returned (.tuple #[]) ∧ u' = .returning ∧ w' = w := by
  refine callsD_of_wpS Tryz.func38 rfl fun c₀ cs hu => ?_
  apply wpS_seq
  apply wpS_region
  simp [wpOpsS, go_sem, recoverD, hu, Tryz.ntmps38, Exit.thenS]
  apply wpS_seq
  apply wpS_region
  simp [wpOpsS, go_sem, hu, Exit.thenS]
  refine wpS_cond (t := false) (by simp [Act.eval, Array.replicate]) ?_
  simp only [Bool.false_eq_true, if_false]
  refine wpS_of_wp (wp_skip ?_)
  cases c₀
  simp_all [bodyPostS, results, Tryz.results38]

set_option maxHeartbeats 1000000 in
theorem new_any (L : Nat) (w : World) (hL : L ≤ 1000000) :
    Calls Tryz.prog 25 #[.int .u64 (L : Int)] w fun e w' => ∃ p, e = .returned (.pointer (some ⟨p, 0, none⟩)) ∧ Bs w.heap.size w' p L (List.replicate ((L + 63) / 64) 0) ((L + 63) / 64) ∧ Below w.heap.size w w' := by
  obtain ⟨n, hn⟩ : ∃ n : Nat, (L + 63) / 64 = n := ⟨_, rfl⟩
  have hn2 : ((L : Int) + 63) / 64 = (n : Int) := by omega
  have hn3 : n ≤ 100000 := by omega
  rw [hn]
  clear hn
  have hmf : ∀ (fn : Fn) (first cap : Array Value) (w : World), (Instr.makeFunc fn first cap).run Tryz.prog w = .ok (.func fn first cap) w := fun _ _ _ _ => rfl
  go_enter_defers Tryz.func25, Tryz.ntmps25
  go_wp2_with fail
  refine (needed_any _ _ (by omega) (by omega)).mono ?_
  rintro e w' ⟨rfl, rfl⟩
  rw [hn2]
  go_wp2_with (at_make; refine wpList_make1 rfl _ _ 23 rfl (w.heap.size + 1) 25 (.int .u64 0) 8 Tryz.underlying23 info_w64 rfl _ _ _ _ n rfl rfl rfl rfl (by omega) (by unfold maxLen; omega) (by simp) ?_; intro w1 hown1 hb1 hs1; have f1 : w1.frozen? ⟨w.heap.size, 0, none⟩ = false := (hb1.frozen (by simp)).trans ((One.new w 49 (.pointer none)).free); have c1 : w1.cell? ⟨w.heap.size, 0, none⟩ = some (.pointer none) := (hb1.cell (by simp)).trans ((One.new w 49 (.pointer none)).cell); have hz := hb1.size; rw [World.size_alloc] at hz hs1; have hlt : w.heap.size < w1.heap.size := by omega)
  have hb0 : Below w.heap.size w w1 := ((Below.refl _ _).alloc (Nat.le_refl _) _).trans (hb1.mono (by simp))
  simp only [World.size_alloc] at hown1
  refine leaves_cons (f := 38) (args := #[.pointer (some ⟨w.heap.size, 0, none⟩)]) (by simp) (by simp [go_sem]) ?_
  refine (new_idle ⟨w.heap.size, 0, none⟩ _).mono ?_
  rintro e u' w'' ⟨rfl, rfl, rfl⟩
  have hc : (((w1.setCell ⟨w.heap.size, 0, none⟩ (.pointer (some ⟨w1.heap.size, 0, none⟩))).setCell ⟨w.heap.size, 0, none⟩ (.pointer (some ⟨w1.heap.size, 0, none⟩))).alloc
      (.cells #[.int .u64 (L : Int), .slice (some ⟨w.heap.size + 1, 0, none⟩) n n] 67)).cell? ⟨w.heap.size, 0, none⟩ = some (.pointer (some ⟨w1.heap.size, 0, none⟩)) := by
    go_simp
  refine ⟨.pointer (some ⟨w1.heap.size, 0, none⟩), ?_, ?_⟩
  · simp [results, Tryz.results25, go_sem, hc]
  · have hblk := Blk.new ((w1.setCell ⟨w.heap.size, 0, none⟩ (.pointer (some ⟨w1.heap.size, 0, none⟩))).setCell ⟨w.heap.size, 0, none⟩ (.pointer (some ⟨w1.heap.size, 0, none⟩))) 67 #[.int .u64 (L : Int), .slice (some ⟨w.heap.size + 1, 0, none⟩) n n]
    have hsz : ((w1.setCell ⟨w.heap.size, 0, none⟩ (.pointer (some ⟨w1.heap.size, 0, none⟩))).setCell ⟨w.heap.size, 0, none⟩ (.pointer (some ⟨w1.heap.size, 0, none⟩))).heap.size = w1.heap.size := by simp [World.setCell]
    rw [hsz] at hblk
    have hown := ((ownsRow_setCell_below (ownsRow_setCell_below hown1 (a := ⟨w.heap.size, 0, none⟩) (by simp) (.pointer (some ⟨w1.heap.size, 0, none⟩))) (a := ⟨w.heap.size, 0, none⟩) (by simp) (.pointer (some ⟨w1.heap.size, 0, none⟩))).alloc (.cells #[.int .u64 (L : Int), .slice (some ⟨w.heap.size + 1, 0, none⟩) n n] 67))
    refine ⟨w1.heap.size, rfl, ⟨w.heap.size + 1, by omega, by omega, ?_, ?_, ?_⟩, ?_⟩
    · rw [List.length_replicate]; exact hblk
    · rw [List.length_replicate]
      have e : rb_u64s (List.replicate n 0) = List.replicate n (.int .u64 0) := by simp [rb_u64s]
      rw [e]
      exact ownsRow_weaken hown (by omega)
    · intro x hx
      have := List.eq_of_mem_replicate hx
      omega
    · exact ((hb0.setCell (Nat.le_refl _) _).setCell (Nat.le_refl _) _).alloc (by rw [hsz]; omega) _
end Go.Proofs.YtgifbdjifmoafaaGreat
end
section
namespace Go.Proofs.YtgifbdjifmoafaaGreat
set_option linter.unusedVariables false
open Go.RowKit

theorem and63 (i : Nat) : i &&& 63 = i % 64 := Nat.and_two_pow_sub_one_eq_mod i 6

set_option maxHeartbeats 400000 in
theorem windex_any (i : Nat) (w : World) (hi : i < 18446744073709551616) :
    Calls Tryz.prog 37 #[.int .u64 (i : Int)] w fun e w' => e = .returned (.int .u64 ((i % 64 : Nat) : Int)) ∧ w = w' := by
  have h := u64_and_nat i 63 hi (by omega)
  rw [and63] at h
  have h2 : bits .and .u64 (i : Int) 63 = ((i % 64 : Nat) : Int) := h
  have H2 := Lib.hid h2
  clear h h2 hi
  go_enter Tryz.func37, Tryz.ntmps37
  go_wp2
  go_ret
  exact ⟨ret_int H2.out, rfl⟩

theorem windex_still (i : Nat) (w : World) (hi : i < 18446744073709551616) :
    Calls Tryz.prog 37 #[.int .u64 (i : Int)] w fun e w' => e = .returned (.int .u64 ((i % 64 : Nat) : Int)) ∧ w' = w :=
  (windex_any i w hi).mono fun _ _ ⟨he, hw⟩ => ⟨he, hw.symm⟩

set_option maxHeartbeats 400000 in
theorem len_any (B : Nat) (p L : Nat) (ws : List Nat) (cap : Nat) (w : World) (hb : Bs B w p L ws cap) :
    Calls Tryz.prog 23 #[.pointer (some ⟨p, 0, none⟩)] w fun e w' => e = .returned (.int .u64 (L : Int)) ∧ w = w' := by
  obtain ⟨g, h1, h2, h3, h4, h5⟩ := hb
  have c0 : w.cell? ⟨p, 0, none⟩ = some (.int .u64 (L : Int)) := h3.cell 0 rfl
  clear h1 h2 h3 h4 h5
  go_enter Tryz.func23, Tryz.ntmps23
  go_wp2
  go_ret
  exact ⟨rfl, rfl⟩

theorem rb_pow_wrap (k : Nat) (hk : k < 64) : IntKind.u64.wrap ((2 : Int) ^ k) = ((2 ^ k : Nat) : Int) := by
  have hp : 2 ^ k < 2 ^ 64 := Nat.pow_lt_pow_right (by omega) hk
  rw [IntKind.wrap_u64]
  have e : (2 : Int) ^ k = ((2 ^ k : Nat) : Int) := by simp
  rw [e]
  generalize 2 ^ k = z at hp
  omega
theorem rb_or_word (X i : Nat) (hX : X < 18446744073709551616) : bits BinOp.or IntKind.u64 (X : Int) (IntKind.u64.wrap (2 ^ (i % 64))) = ((X ||| 2 ^ (i % 64) : Nat) : Int) := by
  have hp : 2 ^ (i % 64) < 2 ^ 64 := Nat.pow_lt_pow_right (by omega) (by omega)
  rw [rb_pow_wrap _ (by omega), u64_or_nat X _ hX (by simpa using hp)]
theorem xor_word (X i : Nat) (hX : X < 18446744073709551616) : bits BinOp.xor IntKind.u64 (X : Int) (IntKind.u64.wrap (2 ^ (i % 64))) = ((X ^^^ 2 ^ (i % 64) : Nat) : Int) := by
  have hp : 2 ^ (i % 64) < 2 ^ 64 := Nat.pow_lt_pow_right (by omega) (by omega)
  rw [rb_pow_wrap _ (by omega), u64_xor_nat X _ hX (by simpa using hp)]
theorem rb_test_word (X i : Nat) (hX : X < 18446744073709551616) : (bits BinOp.and IntKind.u64 (X : Int) (IntKind.u64.wrap (2 ^ (i % 64))) != 0) = X.testBit (i % 64) := by
  have hp : 2 ^ (i % 64) < 2 ^ 64 := Nat.pow_lt_pow_right (by omega) (by omega)
  rw [rb_pow_wrap _ (by omega), u64_and_nat X _ hX (by simpa using hp), nat_bit]
  have h2 : X / 2 ^ (i % 64) % 2 = 0 ∨ X / 2 ^ (i % 64) % 2 = 1 := by omega
  have ht := Nat.testBit_eq_decide_div_mod_eq (x := X) (i := i % 64)
  rw [ht]
  have hpos := Nat.two_pow_pos (i % 64)
  rcases h2 with h | h <;> rw [h]
  · simp
  · obtain ⟨q, hq⟩ : ∃ q, 2 ^ (i % 64) = q + 1 := ⟨2 ^ (i % 64) - 1, by omega⟩
    rw [hq]
    simp
    omega
theorem or_lt (X i : Nat) (hX : X < 18446744073709551616) : X ||| 2 ^ (i % 64) < 18446744073709551616 := by
  have hp : 2 ^ (i % 64) < 2 ^ 64 := Nat.pow_lt_pow_right (by omega) (by omega)
  exact Nat.or_lt_two_pow (n := 64) hX hp
theorem xor_lt (X i : Nat) (hX : X < 18446744073709551616) : X ^^^ 2 ^ (i % 64) < 18446744073709551616 := by
  have hp : 2 ^ (i % 64) < 2 ^ 64 := Nat.pow_lt_pow_right (by omega) (by omega)
  exact Nat.xor_lt_two_pow (n := 64) hX hp

theorem rb_u64s_set (ws : List Nat) (q y : Nat) : (rb_u64s ws).set q (.int .u64 (y : Int)) = rb_u64s (ws.set q y) := by simp [rb_u64s, List.map_set]

/-- a store into a word -/
theorem Bs.store {B p L : Nat} {ws : List Nat} {cap : Nat} {w : World} {g : Nat} (h1 : B ≤ p) (h2 : g ≠ p) (h3 : Blk w p 67 #[.int .u64 (L : Int), .slice (some ⟨g, 0, none⟩) ws.length cap])
    (h4 : w.ownsRow B 25 1 (.slice (some ⟨g, 0, none⟩) ws.length cap) ws.length (rb_u64s ws)) (h5 : ∀ x ∈ ws, x < 18446744073709551616) (q y : Nat) (hy : y < 18446744073709551616) :
    Bs B (w.setCell ⟨g, q, none⟩ (.int .u64 (y : Int))) p L (ws.set q y) cap ∧ Below B w (w.setCell ⟨g, q, none⟩ (.int .u64 (y : Int))) := by
  have hg := (h4.lt g rfl).1
  refine ⟨⟨g, h1, h2, ?_, ?_, ?_⟩, (Below.refl _ _).setCell hg _⟩
  · rw [List.length_set]; exact h3.other (Ne.symm h2) _
  · rw [List.length_set, ← rb_u64s_set]; exact (h4.stored q _).1
  · intro x hx
    rcases List.mem_or_eq_of_mem_set hx with h | h
    · exact h5 x h
    · rw [h]; exact hy
theorem Bs.drewN {B p L : Nat} {ws : List Nat} {cap : Nat} {w : World} (h : Bs B w p L ws cap) (n : Nat) : Bs B (w.drewN n) p L ws cap := by
  obtain ⟨g, h1, h2, h3, h4, h5⟩ := h
  exact ⟨g, h1, h2, h3, h4, h5⟩
theorem Bs.weaken {B B' p L : Nat} {ws : List Nat} {cap : Nat} {w : World} (h : Bs B w p L ws cap) (hB : B' ≤ B) : Bs B' w p L ws cap := by
  obtain ⟨g, h1, h2, h3, h4, h5⟩ := h
  exact ⟨g, by omega, h2, h3, ownsRow_weaken h4 hB, h5⟩
/-- what is below a later block is kept -/
theorem Bs.below {B p L : Nat} {ws : List Nat} {cap : Nat} {w w' : World} (h : Bs B w p L ws cap) (hb : Below w.heap.size w w') : Bs B w' p L ws cap := by
  obtain ⟨g, h1, h2, h3, h4, h5⟩ := h
  refine ⟨g, h1, h2, h3.below hb h3.lt, ?_, h5⟩
  exact h4.kept (row := none) ⟨hb.os, hb.tape, hb.output, hb.size, fun k hk _ => hb.block k hk⟩ (by simp [Value.ownBlock])


set_option maxRecDepth 100000 in
set_option maxHeartbeats 400000 in
theorem set_in (B : Nat) (p L i : Nat) (ws : List Nat) (cap : Nat) (w : World) (hb : Bs B w p L ws cap) (hi : i < L) (hL : L ≤ 64 * ws.length) (hl : L ≤ 100000) :
    Calls Tryz.prog 26 #[.pointer (some ⟨p, 0, none⟩), .int .u64 (i : Int)] w fun e w' => e = .returned (.pointer (some ⟨p, 0, none⟩)) ∧ Bs B w' p L (Bsm.orw ws i) cap ∧ Below B w w' := by
  obtain ⟨g, h1, h2, h3, h4, h5⟩ := hb
  have c0 : w.cell? ⟨p, 0, none⟩ = some (.int .u64 (L : Int)) := h3.cell 0 rfl
  have c1 : w.cell? ⟨p, 1, none⟩ = some (.slice (some ⟨g, 0, none⟩) ws.length cap) := h3.cell 1 rfl
  obtain ⟨q, hq⟩ : ∃ q, i / 64 = q := ⟨_, rfl⟩
  have hq2 : q < ws.length := by omega
  have hq3 : (i : Int) / 64 = (q : Int) := by omega
  have c2 := h4.cellAt q (by omega)
  rw [rb_u64s_at ws q hq2] at c2
  have f2 := h4.frozenAt q
  have hil : i < 100000 := by omega
  have hX : ws.getD q 0 < 18446744073709551616 := h5 _ (by simp [hq2])
  have hst := Bs.store h1 h2 h3 h4 h5 q (ws.getD q 0 ||| 2 ^ (i % 64)) (or_lt _ i hX)
  have e1 : Bsm.orw ws i = ws.set q (ws.getD q 0 ||| 2 ^ (i % 64)) := by unfold Bsm.orw Bsm.upd; rw [hq]
  rw [← e1] at hst
  obtain ⟨X, hXX⟩ : ∃ X, ws.getD q 0 = X := ⟨_, rfl⟩
  rw [hXX] at c2 hX hst
  have HW := Lib.hid (rb_or_word X i hX)
  have HST := Lib.hid hst
  clear hq h1 h2 h3 h4 h5 hX hst e1 hXX
  go_enter Tryz.func26, Tryz.ntmps26
  go_wp2_with fail
  refine wp_region_still_tail 13 (by kernel_rfl) (by kernel_rfl) ?_
  simp only [List.take_succ_cons, List.take_zero, List.drop_succ_cons, List.drop_zero]
  repeat still_step
  still_call (windex_still i _ (by omega))
  repeat still_step
  refine wpStill_nil ?_
  change wpList _ _ _ _ _ w.drew
  go_wp2_with fail
  go_ret
  refine ⟨rfl, ?_⟩
  rw [HW.out]
  exact ⟨HST.out.1.drewN 1, HST.out.2.drew⟩

set_option maxRecDepth 100000 in
set_option maxHeartbeats 400000 in
theorem test_any (B : Nat) (p L i : Nat) (ws : List Nat) (cap : Nat) (w : World) (hb : Bs B w p L ws cap) (hL : L ≤ 64 * ws.length) (hl : L ≤ 100000) (hi : i ≤ 100000) :
    Calls Tryz.prog 24 #[.pointer (some ⟨p, 0, none⟩), .int .u64 (i : Int)] w fun e w' => e = .returned (.bool (decide (i < L) && Bsm.bit ws i)) ∧ ∃ nq, w' = w.drewN nq := by
  obtain ⟨g, h1, h2, h3, h4, h5⟩ := hb
  have c0 : w.cell? ⟨p, 0, none⟩ = some (.int .u64 (L : Int)) := h3.cell 0 rfl
  have c1 : w.cell? ⟨p, 1, none⟩ = some (.slice (some ⟨g, 0, none⟩) ws.length cap) := h3.cell 1 rfl
  by_cases hiL : i < L
  · obtain ⟨q, hq⟩ : ∃ q, i / 64 = q := ⟨_, rfl⟩
    have hq2 : q < ws.length := by omega
    have hq3 : (i : Int) / 64 = (q : Int) := by omega
    have c2 := h4.cellAt q (by omega)
    rw [rb_u64s_at ws q hq2] at c2
    have hX : ws.getD q 0 < 18446744073709551616 := h5 _ (by simp [hq2])
    have hw := rb_test_word _ i hX
    have eb : (decide (i < L) && Bsm.bit ws i) = (ws.getD q 0).testBit (i % 64) := by unfold Bsm.bit; rw [hq]; simp [hiL]
    rw [eb]
    obtain ⟨X, hXX⟩ : ∃ X, ws.getD q 0 = X := ⟨_, rfl⟩
    rw [hXX] at c2 hX hw ⊢
    have HW := Lib.hid hw
    clear hq h1 h2 h3 h4 h5 hX hXX hw eb
    go_enter Tryz.func24, Tryz.ntmps24
    go_wp2_with fail
    go_quiet ((go_at_call 37; exact Calls.quiet_of_same (windex_still i _ (by omega))))
    go_wp2_with fail
    go_ret
    exact ⟨ret_bool HW.out, _, rfl⟩
  · have eb : (decide (i < L) && Bsm.bit ws i) = false := by simp [hiL]
    rw [eb]
    clear h1 h2 h3 h4 h5 eb
    go_enter Tryz.func24, Tryz.ntmps24
    go_wp2_with fail
    go_ret
    exact ⟨rfl, 0, rfl⟩

end Go.Proofs.YtgifbdjifmoafaaGreat
end
section
namespace Go.Proofs.YtgifbdjifmoafaaGreat
set_option linter.unusedVariables false
open Go.RowKit

/-- the loop of set64 -/
def Set64Loop (bs : List Bool) (s : Value) (p : Nat) (w : World) (n k : Nat) (idx : Value) (wr : World) : Prop :=
  ∃ (i : Nat) (ws : List Nat), idx = .int .i64 (i : Int) ∧ i + k = n ∧ Bs (w.heap.size + 1) wr p bs.length ws ((bs.length + 63) / 64) ∧ ws.length = (bs.length + 63) / 64 ∧
    (∀ j, Bsm.bit ws j = decide (j ∈ (Bsm.pos bs).take i)) ∧ Below w.heap.size w wr

set_option maxRecDepth 100000 in
set_option maxHeartbeats 1000000 in
/-- set64 makes a bitset of the bits -/
theorem set64_any (v : Value) (bs : List Bool) (w : World) (hv : IsBits w v bs) (hn : bs.length ≤ 100000) :
    Calls Tryz.prog 16 #[v] w fun e w' => ∃ (p : Nat) (ws : List Nat), e = .returned (.pointer (some ⟨p, 0, none⟩)) ∧
      Bs w.heap.size w' p bs.length ws ((bs.length + 63) / 64) ∧ ws.length = (bs.length + 63) / 64 ∧ (∀ j, Bsm.bit ws j = bs.getD j false) ∧ Below w.heap.size w w' := by
  obtain ⟨s, rfl, hs⟩ := hv
  obtain ⟨a, n, cap, rfl, hl, hc, hm, hr⟩ := hs
  rw [rb_u64s_len] at hl
  have hpl := Bsm.pos_len_le bs
  have hn1 : n ≤ 100000 := by omega
  have HL := Lib.hid hl
  clear hl hm hpl
  go_enter Tryz.func16, Tryz.ntmps16
  go_wp2_with fail
  refine (new_any _ _ (by omega)).mono ?_
  rintro e w1 ⟨p, rfl, hbs, hb1⟩
  have hblk : Blk w1 w.heap.size 39 #[.int .u64 (bs.length : Int), .slice a n cap] := (Blk.new w 39 _).below hb1 (by simp)
  have c1 : w1.cell? ⟨w.heap.size, 1, none⟩ = some (.slice a n cap) := hblk.cell 1 rfl
  rw [World.size_alloc] at hbs
  have hb0 : Below w.heap.size w w1 := ((Below.refl _ _).alloc (Nat.le_refl _) _).trans (hb1.mono (by simp))
  have HB := Lib.hid hbs
  clear hblk hbs
  go_wp2_with fail
  go_loopg [12] n (fun k idx wr => Set64Loop bs (.slice a n cap) p w n k idx wr)
  case atStart => exact ⟨0, _, rfl, by omega, HB.out, by simp, fun j => by rw [Bsm.bit_zeros]; simp, hb0⟩
  case round =>
    obtain ⟨i, ws, rfl, hik, hbs, hwl, hbit, hbel⟩ := hrel
    have HBS := Lib.hid hbs
    have HBIT := Lib.hid hbit
    clear hbs hbit hb0
    by_cases hi : i < n
    · obtain ⟨b, off, rfl, hcell⟩ := hr (by omega)
      have h1 := hcell i _ (rb_u64s_at (Bsm.pos bs) i (by rw [HL.out]; exact hi))
      rw [← hbel.cell (World.block_lt_of_cell? w _ h1)] at h1
      have hp := Bsm.pos_getD_lt bs i (by rw [HL.out]; exact hi)
      have hmem : (Bsm.pos bs).take (i + 1) = (Bsm.pos bs).take i ++ [(Bsm.pos bs).getD i 0] := by
        rw [List.take_succ_eq_append_getElem (by rw [HL.out]; exact hi)]; simp [HL.out, hi]
      obtain ⟨X, hX⟩ : ∃ X, (Bsm.pos bs).getD i 0 = X := ⟨_, rfl⟩
      rw [hX] at h1 hp hmem
      have HM := Lib.hid hmem
      have HWL := Lib.hid hwl
      clear hr hcell hX hmem hwl c1
      cases gk with
      | zero => omega
      | succ k =>
        go_wp2_with fail
        refine (set_in (w.heap.size + 1) p bs.length X ws _ _ HBS.out hp (by rw [HWL.out]; omega) hn).mono ?_
        rintro e w2 ⟨rfl, hbs2, hb2⟩
        go_wp2_with fail
        go_roundg k
        case measure => omega
        case rel => exact ⟨i + 1, Bsm.orw ws X, by go_num, by omega, hbs2, by unfold Bsm.orw; rw [Bsm.upd_len, HWL.out], fun j => by
                      rw [Bsm.bit_orw _ _ (by rw [HWL.out]; omega), HBIT.out, HM.out, Bool.eq_iff_iff]; simp, hbel.trans (hb2.mono (by omega))⟩
    · obtain rfl : i = n := by omega
      clear c1
      go_wp2_with fail
      go_ret
      refine ⟨p, ws, rfl, HBS.out.weaken (by omega), hwl, fun j => ?_, hbel⟩
      rw [HBIT.out, ← HL.out, List.take_length, Bool.eq_iff_iff, decide_eq_true_eq, Bsm.mem_pos]

theorem ownsRow_drewN {w : World} {B : Nat} {e : TypeId} {size : Nat} {v : Value} {n : Nat} {xs : List Value} (h : w.ownsRow B e size v n xs) (nq : Nat) : (w.drewN nq).ownsRow B e size v n xs := h

/-- the loop of said64 -/
def SaidLoop (L : Nat) (ws : List Nat) (w : World) (k : Nat) (idx : Value) (wr : World) : Prop :=
  ∃ (i : Nat) (q : Option Addr) (m cap : Nat), idx = .int .u64 (i : Int) ∧ i + k = L ∧ Blk wr (w.heap.size + 1) 39 #[.int .u64 (L : Int), .slice q m cap] ∧
    Blk wr w.heap.size 39 #[.int .u64 0, .slice none 0 0] ∧
    wr.ownsRow (w.heap.size + 2) 36 1 (.slice q m cap) (Bsm.posn (Bsm.bitsOf ws L) i).length (rb_u64s (Bsm.posn (Bsm.bitsOf ws L) i)) ∧ Below w.heap.size w wr ∧ w.heap.size + 2 ≤ wr.heap.size

set_option maxRecDepth 100000 in
set_option maxHeartbeats 1000000 in
/-- said64 tells the bits of a bitset -/
theorem said64_any (B p L : Nat) (ws : List Nat) (cp : Nat) (w : World) (hb : Bs B w p L ws cp) (hL : L ≤ 64 * ws.length) (hn : L ≤ 100000) :
    Calls Tryz.prog 15 #[.pointer (some ⟨p, 0, none⟩)] w fun e w' => ∃ v', e = .returned v' ∧ OwnBits w.heap.size w' v' (Bsm.bitsOf ws L) ∧ Below w.heap.size w w' := by
  have HB := Lib.hid hb
  have HL := Lib.hid hL
  clear hb hL
  go_enter Tryz.func15, Tryz.ntmps15
  go_wp2_with fail
  refine (len_any B p L ws cp _ ?hb).mono ?_
  case hb => exact HB.out.below (by repeat (first | exact Below.refl _ _ | refine Below.alloc ?_ (by simp) _))
  rintro e w' ⟨rfl, rfl⟩
  go_wp2_with fail
  go_loopg [4] L (fun k idx wr => SaidLoop L ws w k idx wr)
  case atStart =>
    refine ⟨0, none, 0, 0, rfl, by omega, ?_, (Blk.new _ _ _).alloc _, World.ownsRow_nil _ _ _ _, ((Below.refl _ _).alloc (Nat.le_refl _) _).alloc (by simp) _, by simp⟩
    have := Blk.new (w.alloc (.cells #[.int .u64 0, .slice none 0 0] 39)) 39 #[.int .u64 (L : Int), .slice none 0 0]
    simpa using this
  case round =>
    obtain ⟨i, q, m, cap0, rfl, hik, hblk, hres, hown, hbel, hsz⟩ := hrel
    have c0 : wr.cell? ⟨w.heap.size + 1, 0, none⟩ = some (.int .u64 (L : Int)) := hblk.cell 0 rfl
    have c1 : wr.cell? ⟨w.heap.size + 1, 1, none⟩ = some (.slice q m cap0) := hblk.cell 1 rfl
    have f1 := hblk.free 1
    have r0 : wr.cell? ⟨w.heap.size, 0, none⟩ = some (.int .u64 0) := hres.cell 0 rfl
    have r1 : wr.cell? ⟨w.heap.size, 1, none⟩ = some (.slice none 0 0) := hres.cell 1 rfl
    have g0 := hres.free 0
    have g1 := hres.free 1
    have HBK := Lib.hid hblk
    have HRS := Lib.hid hres
    have HO := Lib.hid hown
    clear hblk hres hown
    by_cases hi : i < L
    · have hbg : (Bsm.bitsOf ws L).getD i false = Bsm.bit ws i := by rw [Bsm.bitsOf_get]; simp [hi]
      cases gk with
      | zero => omega
      | succ k =>
        by_cases hbit : Bsm.bit ws i = true
        · have eb : (decide (i < L) && Bsm.bit ws i) = true := by simp [hi, hbit]
          have EB := Lib.hid eb
          rw [hbit] at hbg
          have HBG := Lib.hid hbg
          have hpl := Bsm.posn_len (Bsm.bitsOf ws L) i
          have hm1 : (Bsm.posn (Bsm.bitsOf ws L) i).length + 1 ≤ maxLen := by unfold maxLen; omega
          clear eb hbit hbg
          go_wp2_with fail
          refine (test_any B p L i ws cp _ (HB.out.below hbel) HL.out hn (by omega)).mono ?_
          rintro e w' ⟨rfl, nq, rfl⟩
          rw [EB.out]
          go_wp2_with (at_builtin; refine wpList_append1 rfl _ _ 37 rfl (w.heap.size + 2) 36 (.int .u64 0) 8 Tryz.underlying37 rb_info_u64 rfl _ (Bsm.posn (Bsm.bitsOf ws L) i).length (rb_u64s (Bsm.posn (Bsm.bitsOf ws L) i)) rfl (ownsRow_drewN HO.out nq) _ rfl rfl hm1 (by omega) hsz ?_; intro g cap1 w1 hown1 hg1 hb1; have d1 : w1.frozen? ⟨w.heap.size + 1, 1, none⟩ = false := (hb1.frozen (by simp)).trans f1; have d2 : w1.cell? ⟨w.heap.size + 1, 1, none⟩ = some (.slice q m cap0) := (hb1.cell (by simp)).trans c1)
          go_roundg k
          case measure => omega
          case rel =>
            have e : Bsm.posn (Bsm.bitsOf ws L) (i + 1) = Bsm.posn (Bsm.bitsOf ws L) i ++ [i] := by simp only [Bsm.posn]; rw [HBG.out]; simp
            have hz : wr.heap.size ≤ w1.heap.size := hb1.size
            refine ⟨i + 1, some ⟨g, 0, none⟩, _, cap1, by go_num, by omega, ((HBK.out.drewN nq).below hb1 (by omega)).set 1 _, ((HRS.out.drewN nq).below hb1 (by omega)).other (by simp) _, ?_, ((below_drewN hbel nq).trans (hb1.mono (by omega))).setCell (by simp) _, by simp; omega⟩
            rw [e, rb_u64s_append, List.length_append]
            exact ownsRow_setCell_below hown1 (by simp) _
        · have hbf : Bsm.bit ws i = false := by simpa using hbit
          have eb : (decide (i < L) && Bsm.bit ws i) = false := by simp [hbf]
          have EB := Lib.hid eb
          rw [hbf] at hbg
          have HBG := Lib.hid hbg
          clear eb hbit hbf hbg
          go_wp2_with fail
          refine (test_any B p L i ws cp _ (HB.out.below hbel) HL.out hn (by omega)).mono ?_
          rintro e w' ⟨rfl, nq, rfl⟩
          rw [EB.out]
          go_wp2_with fail
          go_roundg k
          case measure => omega
          case rel =>
            have e : Bsm.posn (Bsm.bitsOf ws L) (i + 1) = Bsm.posn (Bsm.bitsOf ws L) i := by simp only [Bsm.posn]; rw [HBG.out]; simp
            exact ⟨i + 1, q, m, cap0, by go_num, by omega, HBK.out.drewN nq, HRS.out.drewN nq, by rw [e]; exact ownsRow_drewN HO.out nq, below_drewN hbel nq, hsz⟩
    · obtain rfl : i = L := by omega
      go_wp2_with fail
      refine bodyPost_ret (v := .agg #[.int .u64 (i : Int), .slice q m cap0]) (by simp [results, Tryz.results15, go_sem, *]) rfl ?_
      have ho := ownsRow_setCell_below (ownsRow_setCell_below HO.out (a := ⟨w.heap.size, 0, none⟩) (by simp) (.int .u64 (i : Int))) (a := ⟨w.heap.size, 1, none⟩) (by simp) (.slice q m cap0)
      have e : Bsm.pos (Bsm.bitsOf ws i) = Bsm.posn (Bsm.bitsOf ws i) i := by unfold Bsm.pos; rw [Bsm.bitsOf_len]
      refine ⟨_, rfl, ⟨_, _, _, by rw [Bsm.bitsOf_len], ?_⟩, ?_⟩
      · rw [e]; exact ownsRow_weaken ho (by omega)
      · exact (hbel.setCell (Nat.le_refl _) _).setCell (Nat.le_refl _) _
end Go.Proofs.YtgifbdjifmoafaaGreat
end
section
namespace Go.Proofs.YtgifbdjifmoafaaGreat
set_option linter.unusedVariables false
open Go.RowKit

theorem u64_cells (l : List Nat) : ∀ u ∈ rb_u64s l, u.oneCell' = true := by
  intro u hu
  obtain ⟨x, _, rfl⟩ := List.mem_map.1 hu
  rfl

theorem cap_any (w : World) : Calls Tryz.prog 44 #[] w fun e w' => e = .returned (.int .u64 18446744073709551615) ∧ w = w' := by
  go_enter Tryz.func44, Tryz.ntmps44
  go_wp2
  go_ret
  exact ⟨rfl, rfl⟩

theorem only_drew {a w : World} {row : Option Nat} (h : a.grownBy w row) : a.grownBy w.drew row := ⟨h.os, h.tape, h.output, h.size, h.block⟩
theorem only_drewN {a w : World} {row : Option Nat} (h : a.grownBy w row) (n : Nat) : a.grownBy (w.drewN n) row := ⟨h.os, h.tape, h.output, h.size, h.block⟩
theorem only_setCell {a w : World} {g : Nat} (h : a.grownBy w (some g)) {p : Addr} (hp : p.block = g ∨ a.heap.size ≤ p.block) (u : Value) : a.grownBy (w.setCell p u) (some g) :=
  ⟨h.os, h.tape, h.output, by simpa [World.setCell] using h.size, fun i hi hne => (Below.heap_setCell w p u i (by
    rintro rfl
    rcases hp with hp | hp
    · exact hne (by rw [hp])
    · omega)).trans (h.block i hi hne)⟩
theorem only_of_below {a w : World} (h : Below a.heap.size a w) (row : Option Nat) : a.grownBy w row := ⟨h.os, h.tape, h.output, h.size, fun i hi _ => h.block i hi⟩
theorem only_below {a w w1 : World} {row : Option Nat} (h : a.grownBy w row) (hb : Below w.heap.size w w1) : a.grownBy w1 row :=
  ⟨hb.os.trans h.os, hb.tape.trans h.tape, hb.output.trans h.output, Nat.le_trans h.size hb.size, fun i hi hn => (hb.block i (Nat.lt_of_lt_of_le hi h.size)).trans (h.block i hi hn)⟩
theorem only_refl (a : World) (row : Option Nat) : a.grownBy a row := ⟨rfl, rfl, rfl, Nat.le_refl _, fun _ _ _ => rfl⟩

theorem only_two {a w : World} {g : Nat} (h : a.grownBy w (some g)) (u v : Value) : a.grownBy ((w.setCell ⟨g, 1, none⟩ u).setCell ⟨g, 0, none⟩ v) (some g) :=
  only_setCell (p := ⟨g, 0, none⟩) (only_setCell (p := ⟨g, 1, none⟩) h (.inl rfl) u) (.inl rfl) v

set_option maxRecDepth 100000 in
set_option maxHeartbeats 1000000 in
theorem extend_far (B p L i : Nat) (I : Int) (hI : I = i) (ws : List Nat) (w : World) (hb : Bs B w p L ws ws.length) (hwl : ws.length = (L + 63) / 64) (hi : L ≤ i) (hi2 : i ≤ 100000) (hBw : B ≤ w.heap.size) :
    Calls Tryz.prog 40 #[.pointer (some ⟨p, 0, none⟩), .int .u64 I] w fun e w' => e = .returned (.tuple #[]) ∧
      ∃ ws' cap', Bs B w' p (i + 1) ws' cap' ∧ ws'.length = (i + 64) / 64 ∧ (∀ j, Bsm.bit ws' j = Bsm.bit ws j) ∧ Below B w w' ∧ w.grownBy w' (some p) ∧ (∀ a n c, w'.cell? ⟨p, 1, none⟩ = some (.slice (some a) n c) → w.cell? ⟨p, 1, none⟩ = some (.slice (some a) ws.length ws.length) ∨ w.heap.size ≤ a.block) := by
  obtain ⟨g, h1, h2, h3, h4, h5⟩ := hb
  obtain ⟨n, hn⟩ : ∃ n : Nat, (i + 64) / 64 = n := ⟨_, rfl⟩
  have hn2 : (I + 1 + 63) / 64 = (n : Int) := by omega
  have hI1 : 0 ≤ I := by omega
  have hI2 : I ≤ 100000 := by omega
  have hn3 : n ≤ 100000 := by omega
  have hn4 : ws.length ≤ n := by omega
  rw [hn]
  obtain ⟨l, hl⟩ : ∃ l, ws.length = l := ⟨_, rfl⟩
  rw [hl] at h3 h4 hn4
  have c1 : w.cell? ⟨p, 1, none⟩ = some (.slice (some ⟨g, 0, none⟩) l l) := h3.cell 1 rfl
  have c0 : w.cell? ⟨p, 0, none⟩ = some (.int .u64 (L : Int)) := h3.cell 0 rfl
  have f0 := h3.free 0
  have f1 := h3.free 1
  have HL := Lib.hid hl
  have H1 := Lib.hid h1
  have H2 := Lib.hid h2
  have H3 := Lib.hid h3
  have H4 := Lib.hid h4
  have H5 := Lib.hid h5
  have HWL := Lib.hid hwl
  have HI := Lib.hid hI
  have HI2 := Lib.hid hi2
  have HI1 := Lib.hid hi
  clear hl hwl h1 h2 h3 h4 h5 hn hI hi2 hi
  have hnil := fun (w : World) => Lib.run_eql_slice_nil (P := Tryz.prog) w 23 25 (some ⟨g, 0, none⟩) l l 0 0 Tryz.underlying23
  by_cases hln : l = n
  · subst hln
    go_enter Tryz.func40, Tryz.ntmps40
    go_wp2_with (go_at_call 44; go_in)
    refine (needed_any _ _ (by omega) (by omega)).mono ?_
    rintro e w' ⟨rfl, rfl⟩
    rw [hn2]
    go_wp2_with fail
    go_end0
    have eI : I + 1 = ((i + 1 : Nat) : Int) := by have := HI.out; omega
    have hbk := (H3.out.set 1 (.slice (some ⟨g, 0, none⟩) l l)).set 0 (.int .u64 (I + 1))
    have ho := H4.out
    have hg2 := H2.out
    have hp1 := H1.out
    have ho2 := ownsRow_setCell_other (ownsRow_setCell_other ho (a := ⟨p, 1, none⟩) (by simpa [Value.ownBlock] using hg2) (.slice (some ⟨g, 0, none⟩) l l)) (a := ⟨p, 0, none⟩) (by simpa [Value.ownBlock] using hg2) (.int .u64 ((i + 1 : Nat) : Int))
    rw [eI] at hbk ⊢
    refine ⟨rfl, ws, l, ⟨g, hp1, hg2, ?_, ?_, H5.out⟩, HL.out, fun j => rfl, ((Below.refl _ _).setCell hp1 _).setCell hp1 _, only_two (only_refl _ _) _ _, fun a n9 c9 hq => ?_⟩
    · rw [HL.out]; exact hbk
    · rw [HL.out]; exact ho2
    · have hc := hbk.cell 1 (v := .slice (some ⟨g, 0, none⟩) l l) rfl
      rw [hc] at hq
      left
      simp only [Option.some.injEq, Value.slice.injEq] at hq
      rw [HL.out, ← hq.1]; exact c1
  · have hlt : l < n := by omega
    go_enter Tryz.func40, Tryz.ntmps40
    go_wp2_with (go_at_call 44; go_in)
    refine (needed_any _ _ (by omega) (by omega)).mono ?_
    rintro e w' ⟨rfl, rfl⟩
    rw [hn2]
    go_wp2_with (first | (at_make; refine wpList_make2 rfl _ _ 23 rfl w.heap.size 25 (.int .u64 0) 8 Tryz.underlying23 info_w64 rfl _ _ _ _ n (2 * n) rfl rfl rfl (by go_num) (by omega) (by omega) (by unfold maxLen; omega) (Nat.le_refl _) ?_; intro w1 hown1 hb1 hs1; have bk := H3.out.below hb1 H3.out.lt; have d1 : w1.cell? ⟨p, 1, none⟩ = some (.slice (some ⟨g, 0, none⟩) l l) := bk.cell 1 rfl; have d0 : w1.cell? ⟨p, 0, none⟩ = some (.int .u64 (L : Int)) := bk.cell 0 rfl; have e0 := bk.free 0; have e1 := bk.free 1; have HBK := Lib.hid bk; clear bk) | (refine wpList_copySl rfl _ _ 23 23 rfl w.heap.size 25 (.int .u64 0) 8 Tryz.underlying23 info_w64 _ n (2 * n) _ rfl hown1 _ (rb_u64s ws) rfl ((Sl.of_owns H4.out).below rfl hb1) (by rw [rb_u64s_len, HL.out]; omega) (u64_cells _) ?_; intro w2 hown2 hg2 hb2; have bk2 := HBK.out.below hb2 H3.out.lt; have q1 : w2.cell? ⟨p, 1, none⟩ = some (.slice (some ⟨g, 0, none⟩) l l) := bk2.cell 1 rfl; have q0 : w2.cell? ⟨p, 0, none⟩ = some (.int .u64 (L : Int)) := bk2.cell 0 rfl; have z0 := bk2.free 0; have z1 := bk2.free 1; have HBK2 := Lib.hid bk2; clear bk2))
    go_end0
    have hbb := hb1.trans hb2
    have hpw := H3.out.lt
    have hz2 := hb2.size
    have hp1 := H1.out
    have eI : I + 1 = ((i + 1 : Nat) : Int) := by have := HI.out; omega
    have er : rb_u64s ws ++ (List.replicate n (Value.int .u64 0)).drop (rb_u64s ws).length = rb_u64s (ws ++ List.replicate (n - l) 0) := by
      rw [rb_u64s_len, HL.out, List.drop_replicate]; simp [rb_u64s]
    have el : (ws ++ List.replicate (n - l) 0).length = n := by rw [List.length_append, HL.out, List.length_replicate]; omega
    rw [er] at hown2
    have hbk := (HBK2.out.set 1 (.slice (some ⟨w.heap.size, 0, none⟩) n (2 * n))).set 0 (.int .u64 (I + 1))
    rw [eI] at hbk ⊢
    have ho := ownsRow_setCell_below (ownsRow_setCell_below hown2 (a := ⟨p, 1, none⟩) hpw (.slice (some ⟨w.heap.size, 0, none⟩) n (2 * n))) (a := ⟨p, 0, none⟩) hpw (.int .u64 ((i + 1 : Nat) : Int))
    refine ⟨rfl, ws ++ List.replicate (n - l) 0, 2 * n, ⟨w.heap.size, H1.out, by omega, ?_, ?_, ?_⟩, el, fun j => Bsm.bit_append_zeros ws _ j, ((hbb.mono hBw).setCell hp1 _).setCell hp1 _, only_two (only_of_below hbb _) _ _, fun a n9 c9 hq => ?_⟩
    · rw [el]; exact hbk
    · rw [el]; exact ownsRow_weaken ho hBw
    · intro x hx
      rcases List.mem_append.1 hx with h | h
      · exact H5.out x h
      · have := List.eq_of_mem_replicate h; omega
    · have hc := hbk.cell 1 (v := .slice (some ⟨w.heap.size, 0, none⟩) n (2 * n)) rfl
      rw [hc] at hq
      right
      simp only [Option.some.injEq, Value.slice.injEq] at hq
      rw [← hq.1]; exact Nat.le_refl _

theorem extend_any (B p L i : Nat) (I : Int) (hI : I = i) (ws : List Nat) (w : World) (hb : Bs B w p L ws ws.length) (hwl : ws.length = (L + 63) / 64) (hi : L ≤ i) (hi2 : i ≤ 100000) (hBw : B ≤ w.heap.size) :
    Calls Tryz.prog 40 #[.pointer (some ⟨p, 0, none⟩), .int .u64 I] w fun e w' => e = .returned (.tuple #[]) ∧
      ∃ ws' cap', Bs B w' p (i + 1) ws' cap' ∧ ws'.length = (i + 64) / 64 ∧ (∀ j, Bsm.bit ws' j = Bsm.bit ws j) ∧ Below B w w' :=
  (extend_far B p L i I hI ws w hb hwl hi hi2 hBw).mono fun _ _ ⟨he, ws', cap', h1, h2, h3, h4, _, _⟩ => ⟨he, ws', cap', h1, h2, h3, h4⟩
end Go.Proofs.YtgifbdjifmoafaaGreat
end
section
namespace Go.Proofs.YtgifbdjifmoafaaGreat
set_option linter.unusedVariables false
open Go.RowKit

/-- the bits up to L alone -/
theorem Bsm.low_bit (X k j : Nat) (hk : 0 < k) (hk2 : k < 64) : (X &&& (18446744073709551615 >>> (64 - k))).testBit j = (X.testBit j && decide (j < k)) := by
  have e : (18446744073709551615 : Nat) = 2 ^ 64 - 1 := by rfl
  rw [Nat.testBit_and, Nat.testBit_shiftRight, e, Nat.testBit_two_pow_sub_one]
  congr 1
  rw [decide_eq_decide]
  omega

/-- the words below i are c -/
def Bsm.lay (c : Nat) (ws : List Nat) : Nat → List Nat
  | 0 => ws
  | i + 1 => (Bsm.lay c ws i).set i c
theorem Bsm.lay_len (c : Nat) (ws : List Nat) (i : Nat) : (Bsm.lay c ws i).length = ws.length := by
  induction i with
  | zero => rfl
  | succ i ih => simp [Bsm.lay, ih]
theorem Bsm.lay_getD (c : Nat) (ws : List Nat) (i : Nat) (q : Nat) (hi : i ≤ ws.length) : (Bsm.lay c ws i).getD q 0 = if q < i then c else ws.getD q 0 := by
  induction i with
  | zero => simp [Bsm.lay]
  | succ i ih =>
    have ih' := ih (by omega)
    simp only [Bsm.lay, List.getD_eq_getElem?_getD] at ih' ⊢
    by_cases e : i = q
    · subst e
      rw [List.getElem?_set_self (by rw [Bsm.lay_len]; omega), if_pos (by omega)]
      rfl
    · rw [List.getElem?_set_ne e, ih']
      by_cases h : q < i
      · rw [if_pos h, if_pos (by omega)]
      · rw [if_neg h, if_neg (by omega)]
theorem Bsm.bit_lay (c : Nat) (ws : List Nat) (j : Nat) : Bsm.bit (Bsm.lay c ws ws.length) j = if j / 64 < ws.length then c.testBit (j % 64) else false := by
  unfold Bsm.bit
  rw [Bsm.lay_getD _ _ _ _ (Nat.le_refl _)]
  split
  · rfl
  · rename_i h
    rw [List.getD_eq_getElem?_getD, List.getElem?_eq_none (by omega)]
    simp

/-- a store into a word of a bitset -/
theorem Bs.put {B p L : Nat} {ws : List Nat} {cap : Nat} {w : World} {g : Nat} (h : Bs B w p L ws cap) (hg : w.cell? ⟨p, 1, none⟩ = some (.slice (some ⟨g, 0, none⟩) ws.length cap)) (q y : Nat) (hy : y < 18446744073709551616) (hq : q < ws.length) :
    Bs B (w.setCell ⟨g, q, none⟩ (.int .u64 (y : Int))) p L (ws.set q y) cap ∧ Below B w (w.setCell ⟨g, q, none⟩ (.int .u64 (y : Int))) ∧ w.frozen? ⟨g, q, none⟩ = false ∧
      w.cell? ⟨g, q, none⟩ = some (.int .u64 (ws.getD q 0 : Nat)) ∧ (w.setCell ⟨g, q, none⟩ (.int .u64 (y : Int))).cell? ⟨p, 1, none⟩ = some (.slice (some ⟨g, 0, none⟩) ws.length cap) := by
  obtain ⟨g', h1, h2, h3, h4, h5⟩ := h
  have c1 : w.cell? ⟨p, 1, none⟩ = some (.slice (some ⟨g', 0, none⟩) ws.length cap) := h3.cell 1 rfl
  rw [hg] at c1
  obtain rfl : g = g' := by simpa using c1
  have hst := Bs.store h1 h2 h3 h4 h5 q y hy
  have c2 := h4.cellAt q (by omega)
  rw [rb_u64s_at ws q hq] at c2
  exact ⟨hst.1, hst.2, h4.frozenAt q, c2, (h3.other (Ne.symm h2) _).cell 1 rfl⟩
/-- the cells of a bitset -/
theorem Bs.cells {B p L : Nat} {ws : List Nat} {cap : Nat} {w : World} (h : Bs B w p L ws cap) :
    ∃ g, w.cell? ⟨p, 0, none⟩ = some (.int .u64 (L : Int)) ∧ w.cell? ⟨p, 1, none⟩ = some (.slice (some ⟨g, 0, none⟩) ws.length cap) ∧
      ∀ q, q < ws.length → w.cell? ⟨g, q, none⟩ = some (.int .u64 (ws.getD q 0 : Nat)) := by
  obtain ⟨g, h1, h2, h3, h4, h5⟩ := h
  refine ⟨g, h3.cell 0 rfl, h3.cell 1 rfl, fun q hq => ?_⟩
  have c2 := h4.cellAt q (by omega)
  rwa [rb_u64s_at ws q hq] at c2

def LayLoop (c : Nat) (B p L : Nat) (ws : List Nat) (cap g n : Nat) (w : World) (k : Nat) (idx : Value) (wr : World) : Prop :=
  ∃ i : Nat, idx = .int .i64 (i : Int) ∧ i + k = n ∧ Bs B wr p L (Bsm.lay c ws i) cap ∧ wr.cell? ⟨p, 1, none⟩ = some (.slice (some ⟨g, 0, none⟩) n cap) ∧ Below B w wr

end Go.Proofs.YtgifbdjifmoafaaGreat
end
section
namespace Go.Proofs.YtgifbdjifmoafaaGreat
set_option linter.unusedVariables false
open Go.RowKit

/-- the words below i are f of their place -/
def Bsm.layf (f : Nat → Nat) (ws : List Nat) : Nat → List Nat
  | 0 => ws
  | i + 1 => (Bsm.layf f ws i).set i (f i)
theorem Bsm.layf_len (f : Nat → Nat) (ws : List Nat) (i : Nat) : (Bsm.layf f ws i).length = ws.length := by
  induction i with
  | zero => rfl
  | succ i ih => simp [Bsm.layf, ih]
theorem Bsm.layf_getD (f : Nat → Nat) (ws : List Nat) (i : Nat) (q : Nat) (hi : i ≤ ws.length) : (Bsm.layf f ws i).getD q 0 = if q < i then f q else ws.getD q 0 := by
  induction i with
  | zero => simp [Bsm.layf]
  | succ i ih =>
    have ih' := ih (by omega)
    simp only [Bsm.layf, List.getD_eq_getElem?_getD] at ih' ⊢
    by_cases e : i = q
    · subst e
      rw [List.getElem?_set_self (by rw [Bsm.layf_len]; omega), if_pos (by omega)]
      rfl
    · rw [List.getElem?_set_ne e, ih']
      by_cases h : q < i
      · rw [if_pos h, if_pos (by omega)]
      · rw [if_neg h, if_neg (by omega)]

theorem Bs.word_lt {B p L : Nat} {ws : List Nat} {cap : Nat} {w : World} (h : Bs B w p L ws cap) (q : Nat) : ws.getD q 0 < 18446744073709551616 := by
  obtain ⟨g, h1, h2, h3, h4, h5⟩ := h
  by_cases hq : q < ws.length
  · exact h5 _ (by simp [hq])
  · rw [List.getD_eq_getElem?_getD, List.getElem?_eq_none (by omega)]; simp

theorem rb_not_word (X : Nat) (hX : X < 18446744073709551616) : bits BinOp.xor IntKind.u64 IntKind.u64.max (X : Int) = ((18446744073709551615 - X : Nat) : Int) := by
  have e : IntKind.u64.max = ((18446744073709551615 : Nat) : Int) := by rfl
  rw [e, u64_xor_nat _ X (by omega) hX]
  congr 1
  apply Nat.eq_of_testBit_eq
  intro j
  have e1 : (18446744073709551615 : Nat) - X = 2 ^ 64 - (X + 1) := by omega
  have e2 : (18446744073709551615 : Nat) = 2 ^ 64 - 1 := by rfl
  rw [Nat.testBit_xor, e1, Nat.testBit_two_pow_sub_succ (by omega), e2, Nat.testBit_two_pow_sub_one]
  by_cases hj : j < 64
  · simp [hj]
  · have h64 : 2 ^ 64 ≤ 2 ^ j := Nat.pow_le_pow_right (by decide) (by omega)
    have : X.testBit j = false := Nat.testBit_lt_two_pow (Nat.lt_of_lt_of_le hX h64)
    simp [hj, this]

theorem notnull_any (p : Addr) (w : World) : Calls Tryz.prog 27 #[.pointer (some p)] w fun e w' => e = .returned (.tuple #[]) ∧ w = w' := by
  go_enter Tryz.func27, Tryz.ntmps27
  go_wp2
  go_end0
  exact ⟨rfl, rfl⟩

def CompLoop (f : Nat → Nat) (B p r L n g' : Nat) (w : World) (k : Nat) (idx : Value) (wr : World) : Prop :=
  ∃ i : Nat, idx = .int .i64 (i : Int) ∧ i + k = n ∧ Bs w.heap.size wr r L (Bsm.layf f (List.replicate n 0) i) n ∧ wr.cell? ⟨r, 1, none⟩ = some (.slice (some ⟨g', 0, none⟩) n n) ∧ Below w.heap.size w wr

set_option maxRecDepth 100000 in
set_option maxHeartbeats 1000000 in
theorem clone_any (B : Nat) (p L : Nat) (ws : List Nat) (cap : Nat) (w : World) (hb : Bs B w p L ws cap) (hwl : ws.length = (L + 63) / 64) (hL : L ≤ 100000) :
    Calls Tryz.prog 29 #[.pointer (some ⟨p, 0, none⟩)] w fun e w' => ∃ r, e = .returned (.pointer (some ⟨r, 0, none⟩)) ∧
      Bs w.heap.size w' r L ws ((L + 63) / 64) ∧ Below w.heap.size w w' := by
  obtain ⟨n, hn⟩ : ∃ n, ws.length = n := ⟨_, rfl⟩
  obtain ⟨g, h1, h2, h3, h4, h5⟩ := hb
  rw [hn] at h3 h4
  have c0 : w.cell? ⟨p, 0, none⟩ = some (.int .u64 (L : Int)) := h3.cell 0 rfl
  have c1 : w.cell? ⟨p, 1, none⟩ = some (.slice (some ⟨g, 0, none⟩) n cap) := h3.cell 1 rfl
  have hwl2 : n = (L + 63) / 64 := by omega
  rw [← hwl2]
  have hn2 : n ≤ 100000 := by omega
  have H3 := Lib.hid h3
  have HS := Lib.hid (Sl.of_owns h4)
  have H5 := Lib.hid h5
  have HN := Lib.hid hn
  have HWL := Lib.hid hwl2
  clear h1 h2 h3 h4 h5 hn hwl hwl2
  go_enter Tryz.func29, Tryz.ntmps29
  go_wp2_with fail
  refine (new_any L _ (by omega)).mono ?_
  rintro e w1 ⟨r, rfl, hbs, hb1⟩
  rw [← HWL.out] at hbs
  obtain ⟨g', q1, q2, q3, q4, q5⟩ := hbs
  rw [List.length_replicate] at q3 q4
  have d1 : w1.cell? ⟨r, 1, none⟩ = some (.slice (some ⟨g', 0, none⟩) n n) := q3.cell 1 rfl
  have bk := H3.out.below hb1 H3.out.lt
  have e0 : w1.cell? ⟨p, 0, none⟩ = some (.int .u64 (L : Int)) := bk.cell 0 rfl
  have e1 : w1.cell? ⟨p, 1, none⟩ = some (.slice (some ⟨g, 0, none⟩) n cap) := bk.cell 1 rfl
  have Q3 := Lib.hid q3
  have Q4 := Lib.hid q4
  clear q3 q4 q5 bk
  go_wp2_with fail
  refine wp_region_still_tail 8 (by kernel_rfl) (by kernel_rfl) ?_
  simp only [List.take_succ_cons, List.take_zero, List.drop_succ_cons, List.drop_zero]
  repeat still_step
  refine wpStill_nil ?_
  change wpList _ _ _ _ _ w1.drew
  refine wpList_copySl rfl _ _ 23 23 rfl w.heap.size 25 (.int .u64 0) 8 Tryz.underlying23 info_w64 g' n n (rb_u64s (List.replicate n 0)) rfl Q4.out (.slice (some ⟨g, 0, none⟩) n cap) (rb_u64s ws) rfl (HS.out.below rfl (hb1.trans (Below.refl _ _).drew)) (by rw [rb_u64s_len, HN.out]; omega) (u64_cells _) ?_
  intro w2 hown2 hg2 hb2
  have hrs := (Q3.out.drew).grown hg2 (by simpa using q2)
  go_wp2_with fail
  go_ret
  have er : rb_u64s ws ++ (rb_u64s (List.replicate n 0)).drop (rb_u64s ws).length = rb_u64s ws := by
    rw [rb_u64s_len, HN.out, List.drop_eq_nil_of_le (by rw [rb_u64s_len]; simp), List.append_nil]
  rw [er] at hown2
  refine ⟨r, rfl, ⟨g', q1, q2, ?_, ?_, H5.out⟩, ((hb1.trans (Below.refl _ _).drew).trans hb2)⟩
  · rw [HN.out]; exact hrs
  · rw [HN.out]; exact hown2
end Go.Proofs.YtgifbdjifmoafaaGreat
end
