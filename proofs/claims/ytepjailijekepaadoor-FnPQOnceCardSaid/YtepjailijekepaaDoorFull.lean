/- Appends to a slice that has no room. No program in sight. -/
import Derived.Test.YtepjailijekepaaDoorRow
import Derived.Deep.RegionLaw
namespace Go.Proofs.YtepjailijekepaaDoor
set_option linter.unusedVariables false
open Go.RowKit

theorem run_append_full {P : Program} (w : World) (t ty e : TypeId) (z : Value) (size bytes : Nat) (ht : P.underlying t = some (.slice e)) (hi : (P.info? e).map (fun i => (i.zero, i.size, i.bytes)) = some (some z, size, bytes)) (hzs : z.cells.size = size) (hsz : 0 < size)
    (a0 : Option Addr) (n : Nat) (olds : List Value) (hlo : olds.length = n * size) (holds : (a0 = none ∧ n = 0) ∨ ∃ b, a0 = some b ∧ ∀ j v, olds[j]? = some v → w.cell? (b.add j) = some v)
    (a : Addr) (m c : Nat) (news : List Value) (hl : news.length = m * size) (hnews : ∀ j u, news[j]? = some u → w.cell? (a.add j) = some u)
    (h0 : 0 < m) (h63 : n + m ≤ maxLen) (hbytes : (n + m) * bytes ≤ 140737488355328) :
    ∃ cap w', (Builtin.append_ #[t, t] ty #[.slice a0 n n, .slice (some a) m c]).run P w = .ok (.slice (some ⟨w.heap.size, 0, none⟩) (n + m) cap) w' ∧
      w'.ownsRow w.heap.size e size (.slice (some ⟨w.heap.size, 0, none⟩) (n + m) cap) (n + m) (olds ++ news) ∧ Below w.heap.size w w' ∧ w.heap.size < w'.heap.size := by
  obtain ⟨i, h2, h3, rfl, rfl⟩ := info_parts hi
  have hlen : (olds ++ news).length = (n + m) * i.size := by rw [List.length_append, hlo, hl, Nat.add_mul]
  have grown : ∀ (old : Nat),
      (w.drew.alloc (.cells (olds.toArray ++ news.toArray ++ Builtin.zeroCells z.cells (grownCap w (n + m) old e - (n + m))) e)).ownsRow w.heap.size e i.size
        (.slice (some ⟨w.heap.size, 0, none⟩) (n + m) (grownCap w (n + m) old e)) (n + m) (olds ++ news) ∧
      Below w.heap.size w (w.drew.alloc (.cells (olds.toArray ++ news.toArray ++ Builtin.zeroCells z.cells (grownCap w (n + m) old e - (n + m))) e)) := by
    intro old
    have hge := grownCap_ge w (n + m) old e
    have hcm : grownCap w (n + m) old e ≤ maxLen := grownCap_le_maxLen w (n + m) old e h63
    refine ⟨⟨hlen, .inr ⟨w.heap.size, _, _, rfl, Nat.le_refl _, heap_alloc_new w.drew _, hge, hcm, ?_, ?_⟩⟩, (Below.refl _ _).drew.alloc (Nat.le_refl _) _⟩
    · simp only [Array.size_append, List.size_toArray, size_zeroCells, hzs, hlo, hl, ← Nat.add_mul]
      congr 1
      omega
    · simp only [Array.toList_append, List.append_assoc]
      rw [← List.append_assoc, ← hlen]
      exact List.take_left
  have hsmall : n + m ≤ 9223372036854775807 := by simp only [maxLen] at h63; omega
  rcases holds with ⟨rfl, rfl⟩ | ⟨b, rfl, holds⟩
  · obtain rfl : olds = [] := List.eq_nil_of_length_eq_zero (by simpa using hlo)
    have hr := run_append_nil (P := P) w t ty e i z ht h2 h3 a m c news hl hnews h0 (by omega) (by have hb := hbytes; simp only [Nat.zero_add] at hb; omega)
    have hgr := grown 0
    simp only [Nat.zero_add, List.nil_append, Array.empty_append] at hgr ⊢
    exact ⟨_, _, hr, hgr.1, hgr.2, by simp⟩
  · have hr := run_append_grow (P := P) w t ty e i z ht h2 h3 b n n olds hlo holds a m c news hl hnews (by omega) (by omega) (growslice_fits (by omega) hbytes)
    have hgr := grown n
    exact ⟨_, _, hr, hgr.1, hgr.2, by simp⟩

/-- append to a slice without room, as a step of a region that draws -/
theorem step_append_full {P : Program} {w : World} {ops : Array Oper} {o : Oper} {a : Act} {K : Act → World → Prop} {Q : Exit → Act → World → Prop} {E : Prop} (hgd : o.guard = none) (s x : Operand) (t : TypeId)
    (ho : o.op = .call { callee := .builtin .append, args := #[s, x], argTypes := #[t, t] })
    (e : TypeId) (z : Value) (size bytes : Nat) (ht : P.underlying t = some (.slice e)) (hi : (P.info? e).map (fun i => (i.zero, i.size, i.bytes)) = some (some z, size, bytes)) (hzs : z.cells.size = size) (hsz : 0 < size)
    (a0 : Option Addr) (n : Nat) (olds : List Value) (hlo : olds.length = n * size) (hs : a.eval s = .slice a0 n n) (holds : (a0 = none ∧ n = 0) ∨ ∃ b, a0 = some b ∧ ∀ j v, olds[j]? = some v → w.cell? (b.add j) = some v)
    (ad : Addr) (m c : Nat) (news : List Value) (hx : a.eval x = .slice (some ad) m c) (hl : news.length = m * size) (hnews : ∀ j u, news[j]? = some u → w.cell? (ad.add j) = some u)
    (h0 : 0 < m) (h63 : n + m ≤ maxLen) (hbytes : (n + m) * bytes ≤ 140737488355328)
    (h : ∀ cap w', w'.ownsRow w.heap.size e size (.slice (some ⟨w.heap.size, 0, none⟩) (n + m) cap) (n + m) (olds ++ news) → Below w.heap.size w w' → w.heap.size < w'.heap.size → K (a.put o.dst (.slice (some ⟨w.heap.size, 0, none⟩) (n + m) cap)) w') :
    if Region.wanted o (yielded ops a.tmps) = true then Oper.wp P o a w K Q else E := by
  obtain ⟨cap, w', hrun, r1, r2, r3⟩ := run_append_full (P := P) w t o.type e z size bytes ht hi hzs hsz a0 n olds hlo holds ad m c news hl hnews h0 h63 hbytes
  have hwd : Region.wanted o (yielded ops a.tmps) = true := by simp [Region.wanted, hgd]
  rw [if_pos hwd]
  unfold Oper.wp execOp
  simp only [ho, resolve, invoke, builtin, Sem.run_bind, Sem.run_pure, Result.andThen_ok, List.map_toArray, List.map_cons, List.map_nil, hs, hx, hrun]
  exact h cap w' r1 r2 r3
/-- the same in a row of operations -/
theorem wpList_append_full {P : Program} {w : World} {ops : Array Oper} {rest : List Oper} {o : Oper} {a : Act} {Q : Exit → Act → World → Prop} (hgd : o.guard = none) (s x : Operand) (t : TypeId)
    (ho : o.op = .call { callee := .builtin .append, args := #[s, x], argTypes := #[t, t] })
    (e : TypeId) (z : Value) (size bytes : Nat) (ht : P.underlying t = some (.slice e)) (hi : (P.info? e).map (fun i => (i.zero, i.size, i.bytes)) = some (some z, size, bytes)) (hzs : z.cells.size = size) (hsz : 0 < size)
    (a0 : Option Addr) (n : Nat) (olds : List Value) (hlo : olds.length = n * size) (hs : a.eval s = .slice a0 n n) (holds : (a0 = none ∧ n = 0) ∨ ∃ b, a0 = some b ∧ ∀ j v, olds[j]? = some v → w.cell? (b.add j) = some v)
    (ad : Addr) (m c : Nat) (news : List Value) (hx : a.eval x = .slice (some ad) m c) (hl : news.length = m * size) (hnews : ∀ j u, news[j]? = some u → w.cell? (ad.add j) = some u)
    (h0 : 0 < m) (h63 : n + m ≤ maxLen) (hbytes : (n + m) * bytes ≤ 140737488355328)
    (h : ∀ cap w', w'.ownsRow w.heap.size e size (.slice (some ⟨w.heap.size, 0, none⟩) (n + m) cap) (n + m) (olds ++ news) → Below w.heap.size w w' → w.heap.size < w'.heap.size → wpList P ops Q rest (a.put o.dst (.slice (some ⟨w.heap.size, 0, none⟩) (n + m) cap)) w') :
    wpList P ops Q (o :: rest) a w := by
  obtain ⟨cap, w', hrun, r1, r2, r3⟩ := run_append_full (P := P) w t o.type e z size bytes ht hi hzs hsz a0 n olds hlo holds ad m c news hl hnews h0 h63 hbytes
  refine wpList_plain hgd fun K hK => ?_
  unfold Oper.wp execOp
  simp only [ho, resolve, invoke, builtin, Sem.run_bind, Sem.run_pure, Result.andThen_ok, List.map_toArray, List.map_cons, List.map_nil, hs, hx, hrun]
  exact hK _ _ (h cap w' r1 r2 r3)
end Go.Proofs.YtepjailijekepaaDoor
